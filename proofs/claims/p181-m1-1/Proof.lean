import JvmDerived
import JvmDerived.Pilot.@@N@@Statement
import JvmDerived.Pilot.@@N@@Code
set_option linter.unusedVariables false
set_option linter.unusedSimpArgs false
namespace Jvm.Pilot.@@N@@
namespace Own
open Jvm Jvm.ClassFile Sem Op Lib Jvm.Free Jvm.Stand Jvm.LawKit Jvm.RoadKit Bundle
/-! A small logic of walks over the library's Stand: WP says that the run from a frame returns well; one rule an instruction; a callee by Con. -/
abbrev Ctx : Type := Program × Env × Room × State × MethodId × Array Value × List Frame × Method × Code
abbrev Ctx.p (K : Ctx) : Program := K.1
abbrev Ctx.e (K : Ctx) : Env := K.2.1
abbrev Ctx.R (K : Ctx) : Room := K.2.2.1
abbrev Ctx.s (K : Ctx) : State := K.2.2.2.1
abbrev Ctx.m (K : Ctx) : MethodId := K.2.2.2.2.1
abbrev Ctx.args (K : Ctx) : Array Value := K.2.2.2.2.2.1
abbrev Ctx.below (K : Ctx) : List Frame := K.2.2.2.2.2.2.1
abbrev Ctx.meth (K : Ctx) : Method := K.2.2.2.2.2.2.2.1
abbrev Ctx.c (K : Ctx) : Code := K.2.2.2.2.2.2.2.2
/-- warmer by links alone -/
def Wm (vm vm1 : Vm) : Prop := ∀ s : State, s.vm = vm → s.WarmedH vm1
theorem Wm.refl (vm : Vm) : Wm vm vm := fun s e => by subst e; exact State.WarmedH.refl s
theorem Wm.of {s0 : State} {vm1 : Vm} (h : s0.WarmedH vm1) : Wm s0.vm vm1 := fun s e => by
  have q : s.WarmedH s0.vm := by rw [← e]; exact State.WarmedH.refl s
  exact State.WarmedH.trans q h
theorem Wm.trans {vm vm1 vm2 : Vm} (A : Wm vm vm1) (B : Wm vm1 vm2) : Wm vm vm2 := fun s e => State.WarmedH.trans (t := s.setVm vm1) (A s e) (B (s.setVm vm1) rfl)
/-- RoadKit's CHr; it: whether the walk may intern -/
def CHx (it : Prop) (Z : State) (EL : List (String × Nat)) (vm : Vm) (h : Heap) (vm1 : Vm) (h' : Heap) : Prop := CHv Z EL vm1 h' ∧ h.size ≤ h'.size ∧ (∀ y, Bk Z EL vm1 h' y → Bk Z EL vm h y ∨ (it ∧ h.size ≤ y)) ∧ (it ∨ Wm vm vm1)
section CHxs
variable {it it' : Prop} {Z : State} {EL : List (String × Nat)} {vm vm1 vm2 : Vm} {h h' h2 : Heap}
theorem CHx.refl (H : CHv Z EL vm h) : CHx it Z EL vm h vm h := ⟨H, Nat.le_refl _, fun _ q => Or.inl q, Or.inr (Wm.refl _)⟩
theorem CHx.trans (A : CHx it Z EL vm h vm1 h') (B : CHx it Z EL vm1 h' vm2 h2) : CHx it Z EL vm h vm2 h2 := ⟨B.1, Nat.le_trans A.2.1 B.2.1, fun y q => by
  rcases B.2.2.1 y q with q | q
  · exact A.2.2.1 y q
  · exact Or.inr ⟨q.1, Nat.le_trans A.2.1 q.2⟩, A.2.2.2.elim Or.inl fun a => B.2.2.2.imp id fun b => a.trans b⟩
theorem CHx.safe (A : CHx it Z EL vm h vm1 h') {x : Addr} (hx : x < h.size) (S : Safe Z EL vm h x) : Safe Z EL vm1 h' x := fun B => by
  rcases A.2.2.1 x B with q | q
  · exact S q
  · exact absurd hx (Nat.not_lt.mpr q.2)
theorem CHx.ext (E : Ext h h') (H : CHv Z EL vm h) : CHx it Z EL vm h vm h' := ⟨H.ext E, E.1, fun y q => Or.inl ((H.step fun _ _ _ q => E.2 _ _ q).2 y q), Or.inr (Wm.refl _)⟩
theorem CHx.wr {a : Addr} {sl : Nat} {v : Value} (W : Wr h h' a sl v) (S : Safe Z EL vm h a) (H : CHv Z EL vm h) : CHx it Z EL vm h vm h' := ⟨H.wr W S, Nat.le_of_eq W.size.symm, fun y q => Or.inl ((H.wrStep W S).2 y q), Or.inr (Wm.refl _)⟩
theorem CHx.mono (hi : it' → it) (A : CHx it' Z EL vm h vm1 h') : CHx it Z EL vm h vm1 h' := ⟨A.1, A.2.1, fun y q => (A.2.2.1 y q).imp id fun z => ⟨hi z.1, z.2⟩, A.2.2.2.imp hi id⟩
theorem CHx.of (hi : it) (A : CHr Z EL vm h vm1 h') : CHx it Z EL vm h vm1 h' := ⟨A.1, A.2.1, fun y q => (A.2.2 y q).imp id fun z => ⟨hi, z⟩, Or.inl hi⟩
/-- over the same heap nothing new is booked -/
theorem CHx.still (A : CHr Z EL vm h vm1 h) (w : Wm vm vm1) : CHx it Z EL vm h vm1 h := ⟨A.1, A.2.1, fun y q => Or.inl ((A.2.2 y q).elim id fun z => by
  obtain ⟨c, hc⟩ := q.there
  exact absurd (Array.getElem?_eq_some_iff.mp hc).1 (Nat.not_lt.mpr z)), Or.inr w⟩
end CHxs
/-- addresses that may be written: new since the law's start, no constant's cell -/
def Owned (Z : State) (EL : List (String × Nat)) (it : Prop) (n0 : Nat) (h0 : Heap) (ws0 : List Addr) (vm : Vm) (h : Heap) (ws : List Addr) : Prop :=
  ∀ x ∈ ws, n0 ≤ x ∧ x < h.size ∧ Safe Z EL vm h x ∧ (x ∈ ws0 ∨ h0.size ≤ x)
def Pos (l : Launch) (Z : State) (EL : List (String × Nat)) (it : Prop) (n0 : Nat) (own : String) (h0 : Heap) (ws0 : List Addr) (K : Ctx) (h : Heap) (ws : List Addr) (cells slots : Nat) (vm : Vm) (T : State) (locs : List Loc) : Prop :=
  Stand K.p l K.e K.R (K.s.setVm vm) K.m K.args K.below K.meth K.c T locs cells slots ∧ T.heap = h ∧ (∃ k, K.s.Since vm k ∧ k ≤ h.size) ∧ Z.Warmed39 vm ∧ vm.findClass own = some K.m.cls ∧
  CHx it Z EL K.s.vm h0 vm h ∧ Fr n0 locs ∧ Keep h0 h ws0 ∧ Old Z n0 h ∧ Owned Z EL it n0 h0 ws0 vm h ws
def Fine (Z : State) (EL : List (String × Nat)) (it : Prop) (n0 : Nat) (h0 : Heap) (ws0 : List Addr) (Q : Option Value → Heap → Prop) (cl sl : Nat) (s : State) (o : Outcome) (t : State) : Prop :=
  ∃ v L, o = .returned v ∧ (Q v t.heap ∧ Keep h0 t.heap ws0 ∧ Fr n0 L) ∧ CHx it Z EL s.vm h0 t.vm t.heap ∧ ReturnedEndW s o t L cl sl
def Goes (Z : State) (EL : List (String × Nat)) (it : Prop) (n0 : Nat) (h0 : Heap) (ws0 : List Addr) (Q : Option Value → Heap → Prop) (K : Ctx) (S : State) : Prop :=
  ∃ s₂ o, Steps K.p.tables K.e K.below S s₂ ∧ s₂.status = .running ∧ Ended s₂ K.below o ∧ Fine Z EL it n0 h0 ws0 Q K.R.cells K.R.slots K.s o s₂
def WP (l : Launch) (Z : State) (EL : List (String × Nat)) (it : Prop) (n0 : Nat) (own : String) (h0 : Heap) (ws0 : List Addr) (Q : Option Value → Heap → Prop) (K : Ctx) (h : Heap) (ws : List Addr) (cells slots : Nat) (g : JFrame) : Prop :=
  ∀ (vm : Vm) (T : State) (locs : List Loc), Pos l Z EL it n0 own h0 ws0 K h ws cells slots vm T locs → Goes Z EL it n0 h0 ws0 Q K (T.setTop g)
/-- what the walk knows of its own method -/
def Ok (l : Launch) (Z : State) (a0 : Array Value) (EL : List (String × Nat)) (it : Prop) (n0 : Nat) (own : String) (h0 : Heap) (ws0 : List Addr) (Q : Option Value → Heap → Prop) (code : ByteArray) (maxL : Nat) (ret : Option FieldType) (nm : String) (rm : Room) (K : Ctx) : Prop :=
  K.p.tables.exec = Jvm.exec ∧ EW Z a0 EL ∧ K.c.code = code ∧ K.c.maxLocals = maxL ∧ K.meth.sig.returnType = ret ∧ K.meth.name = nm ∧ K.meth.locks = false ∧ K.R = rm
/-- a method's law, as its body gives it -/
def Met (l : Launch) (Z : State) (EL : List (String × Nat)) (it : Prop) (n0 : Nat) (y : MethodName) (bytes : ByteArray) (maxL : Nat) (ret : Option FieldType) (rm : Room) (cs : List Jvm.Cond) (as : Array Value) (h : Heap) (ws : List Addr) (Q : Option Value → Heap → Prop) : Prop :=
  MetFree l y (head1 (Jvm.Cond.code y bytes maxL ret :: cs) rm) (fun a U => a = as ∧ Z.Warmed39 U.vm ∧ U.heap = h ∧ CHv Z EL U.vm h ∧ Old Z n0 h ∧ ∀ x ∈ ws, n0 ≤ x ∧ x < h.size ∧ Safe Z EL U.vm h x) (fun _ _ _ _ _ => True)
    (fun _ U o U' => Fine Z EL it n0 h ws Q rm.cells rm.slots U o U')
/-- a method's law, as a caller takes it -/
def Con (l : Launch) (Z : State) (a0 : Array Value) (EL : List (String × Nat)) (it : Prop) (n0 : Nat) (y : MethodName) (fr lo cl sl : Nat) (as : Array Value) (h : Heap) (ws : List Addr) (Q : Option Value → Heap → Prop) : Prop :=
  ∀ (R : Room) (p : Program) (e : Env) (below : List Frame) (s : State) (args : Array Value) (len W : Nat) (vm0 : Vm), Z.Warmed39 vm0 → EW Z a0 EL → CHv Z EL vm0 h → Old Z n0 h → (∀ x ∈ ws, n0 ≤ x ∧ x < h.size ∧ Safe Z EL vm0 h x) → fr ≤ R.frames → W + lo ≤ R.locals →
    BackS l R p e below (s.setVm vm0) args y len W (fun A a => a = as ∧ A.U.heap = h ∧ A.cells + cl ≤ R.cells ∧ A.slots + sl ≤ R.slots)
      (fun A _ v B => ∃ L, (Q v B.U.heap ∧ Keep h B.U.heap ws ∧ Fr n0 L) ∧ B.locs = A.locs ++ L ∧ B.cells = A.cells + cl ∧ B.slots = A.slots + sl ∧ CHx it Z EL vm0 h B.U.vm B.U.heap)
section Rules
variable {l : Launch} {Z : State} {a0 : Array Value} {EL : List (String × Nat)} {it : Prop} {n0 : Nat} {own : String} {h0 : Heap} {ws0 : List Addr} {Q : Option Value → Heap → Prop} {code : ByteArray} {maxL : Nat} {ret : Option FieldType} {nm : String} {rm : Room} {K : Ctx} {h : Heap} {ws : List Addr} {cells slots pc : Nat} {Ls : Array Slot} {st : List Value} {g g' : JFrame}
theorem Goes.of {S S' : State} (f : ∀ t, Steps K.p.tables K.e K.below S' t → Steps K.p.tables K.e K.below S t) (k : Goes Z EL it n0 h0 ws0 Q K S') : Goes Z EL it n0 h0 ws0 Q K S := by
  obtain ⟨s₂, o, h1, h2⟩ := k
  exact ⟨s₂, o, f _ h1, h2⟩
abbrev Ok.W (C : Ok l Z a0 EL it n0 own h0 ws0 Q code maxL ret nm rm K) (h : Heap) (ws : List Addr) (cells slots : Nat) (g : JFrame) : Prop := WP l Z EL it n0 own h0 ws0 Q K h ws cells slots g
theorem Ok.exec (C : Ok l Z a0 EL it n0 own h0 ws0 Q code maxL ret nm rm K) : K.p.tables.exec = Jvm.exec := C.1
theorem Ok.ew (C : Ok l Z a0 EL it n0 own h0 ws0 Q code maxL ret nm rm K) : EW Z a0 EL := C.2.1
theorem Ok.bytes (C : Ok l Z a0 EL it n0 own h0 ws0 Q code maxL ret nm rm K) : K.c.code = code := C.2.2.1
theorem Ok.maxl (C : Ok l Z a0 EL it n0 own h0 ws0 Q code maxL ret nm rm K) : K.c.maxLocals = maxL := C.2.2.2.1
theorem Ok.rets (C : Ok l Z a0 EL it n0 own h0 ws0 Q code maxL ret nm rm K) : K.meth.sig.returnType = ret := C.2.2.2.2.1
theorem Ok.named (C : Ok l Z a0 EL it n0 own h0 ws0 Q code maxL ret nm rm K) : K.meth.name = nm := C.2.2.2.2.2.1
theorem Ok.unlocked (C : Ok l Z a0 EL it n0 own h0 ws0 Q code maxL ret nm rm K) : K.meth.locks = false := C.2.2.2.2.2.2.1
theorem Ok.room (C : Ok l Z a0 EL it n0 own h0 ws0 Q code maxL ret nm rm K) : K.R = rm := C.2.2.2.2.2.2.2
theorem WP.step (f : ∀ vm T locs, Pos l Z EL it n0 own h0 ws0 K h ws cells slots vm T locs → ∀ t, Steps K.p.tables K.e K.below (T.setTop g') t → Steps K.p.tables K.e K.below (T.setTop g) t) (r : WP l Z EL it n0 own h0 ws0 Q K h ws cells slots g') : WP l Z EL it n0 own h0 ws0 Q K h ws cells slots g :=
  fun vm T locs P => Goes.of (f vm T locs P) (r vm T locs P)
/-- what a walk may lean on, wherever it stands -/
theorem Ok.know (C : Ok l Z a0 EL it n0 own h0 ws0 Q code maxL ret nm rm K) (r : n0 ≤ h.size → Keep h0 h ws0 → Old Z n0 h → (∀ x ∈ ws, n0 ≤ x ∧ x < h.size) → WP l Z EL it n0 own h0 ws0 Q K h ws cells slots g) : WP l Z EL it n0 own h0 ws0 Q K h ws cells slots g :=
  fun vm T locs P => r (P.2.2.2.2.2.2.2.2.1.1 ▸ P.2.2.2.2.2.2.2.2.1.2.1) P.2.2.2.2.2.2.2.1 P.2.2.2.2.2.2.2.2.1 (fun x hx => ⟨(P.2.2.2.2.2.2.2.2.2 x hx).1, (P.2.2.2.2.2.2.2.2.2 x hx).2.1⟩) vm T locs P
theorem Pos.ext {vm : Vm} {T T' : State} {locs : List Loc} {h' : Heap} {cells' slots' : Nat} (P : Pos l Z EL it n0 own h0 ws0 K h ws cells slots vm T locs) (X : Stand K.p l K.e K.R (K.s.setVm vm) K.m K.args K.below K.meth K.c T' locs cells' slots') (e : T'.heap = h') (E : Ext h h') :
    Pos l Z EL it n0 own h0 ws0 K h' ws cells' slots' vm T' locs := by
  obtain ⟨-, -, ⟨k, hS, hk⟩, hZ, hown, H, N, Kp, O, Ow⟩ := P
  exact ⟨X, e, ⟨k, hS, Nat.le_trans hk E.1⟩, hZ, hown, H.trans (CHx.ext E H.1), N, Kp.ext E, O.ext E, fun x hx => ⟨(Ow x hx).1, Nat.lt_of_lt_of_le (Ow x hx).2.1 E.1, (Ow x hx).2.2.1.ext E H.1, (Ow x hx).2.2.2⟩⟩
theorem Pos.new {vm : Vm} {T T' : State} {locs : List Loc} {h' : Heap} {cells' slots' : Nat} (P : Pos l Z EL it n0 own h0 ws0 K h ws cells slots vm T locs) (X : Stand K.p l K.e K.R (K.s.setVm vm) K.m K.args K.below K.meth K.c T' locs cells' slots') (e : T'.heap = h') (E : Ext h h') (hl : h.size < h'.size) :
    Pos l Z EL it n0 own h0 ws0 K h' (h.size :: ws) cells' slots' vm T' locs := by
  have P' := P.ext X e E
  obtain ⟨-, -, -, -, -, H, -, Kp, O, -⟩ := P
  refine ⟨P'.1, P'.2.1, P'.2.2.1, P'.2.2.2.1, P'.2.2.2.2.1, P'.2.2.2.2.2.1, P'.2.2.2.2.2.2.1, P'.2.2.2.2.2.2.2.1, P'.2.2.2.2.2.2.2.2.1, fun x hx => ?_⟩
  rcases List.mem_cons.mp hx with rfl | hx
  · exact ⟨O.1 ▸ O.2.1, hl, (Safe.new (Nat.le_refl _)).ext E H.1, Or.inr Kp.1⟩
  · exact P'.2.2.2.2.2.2.2.2.2 x hx
theorem Pos.wr {vm : Vm} {T T' : State} {locs : List Loc} {h' : Heap} {a : Nat} {sl : Nat} {v : Value} (P : Pos l Z EL it n0 own h0 ws0 K h ws cells slots vm T locs) (ha : a ∈ ws) (X : Stand K.p l K.e K.R (K.s.setVm vm) K.m K.args K.below K.meth K.c T' (locs ++ [⟨a, sl⟩]) cells slots) (e : T'.heap = h') (W : Wr h h' a sl v) :
    Pos l Z EL it n0 own h0 ws0 K h' ws cells slots vm T' (locs ++ [⟨a, sl⟩]) := by
  obtain ⟨-, -, ⟨k, hS, hk⟩, hZ, hown, H, N, Kp, O, Ow⟩ := P
  obtain ⟨q1, q2, q3, q4⟩ := Ow a ha
  exact ⟨X, e, ⟨k, hS, W.size ▸ hk⟩, hZ, hown, H.trans (CHx.wr W q3 H.1), Fr.snoc X N q1, Kp.wr W q4, O.wr W q1, fun x hx => ⟨(Ow x hx).1, W.size ▸ (Ow x hx).2.1, Safe.wr W q3 H.1 (Ow x hx).2.2.1, (Ow x hx).2.2.2⟩⟩
/-! plain steps -/
theorem Ok.aloadN (C : Ok l Z a0 EL it n0 own h0 ws0 Q code maxL ret nm rm K) {k : Fin 4} {v : Value} (hd : decode code pc = .ok (.aload_n k, 1)) (hl : Ls[k.val]? = some (.val v)) (hv : v.isRef = true) (r : WP l Z EL it n0 own h0 ws0 Q K h ws cells slots (mkF K.m (pc + 1) Ls (v :: st))) : WP l Z EL it n0 own h0 ws0 Q K h ws cells slots (mkF K.m pc Ls st) :=
  WP.step (fun _ _ _ P _ k => XS.aloadN P.1.here C.exec rfl (hb C.bytes hd) hl hv k) r
theorem Ok.aload (C : Ok l Z a0 EL it n0 own h0 ws0 Q code maxL ret nm rm K) {k : Nat} {v : Value} (hd : decode code pc = .ok (.aload k, 2)) (hl : Ls[k]? = some (.val v)) (hv : v.isRef = true) (r : WP l Z EL it n0 own h0 ws0 Q K h ws cells slots (mkF K.m (pc + 2) Ls (v :: st))) : WP l Z EL it n0 own h0 ws0 Q K h ws cells slots (mkF K.m pc Ls st) :=
  WP.step (fun _ _ _ P _ k => XS.aload P.1.here C.exec rfl (hb C.bytes hd) hl hv k) r
theorem Ok.iloadN (C : Ok l Z a0 EL it n0 own h0 ws0 Q code maxL ret nm rm K) {k : Fin 4} {v : Int32} (hd : decode code pc = .ok (.iload_n k, 1)) (hl : Ls[k.val]? = some (.val (.int v))) (r : WP l Z EL it n0 own h0 ws0 Q K h ws cells slots (mkF K.m (pc + 1) Ls (.int v :: st))) : WP l Z EL it n0 own h0 ws0 Q K h ws cells slots (mkF K.m pc Ls st) :=
  WP.step (fun _ _ _ P _ k => XS.iloadN P.1.here C.exec rfl (hb C.bytes hd) hl k) r
theorem Ok.iload (C : Ok l Z a0 EL it n0 own h0 ws0 Q code maxL ret nm rm K) {k : Nat} {v : Int32} (hd : decode code pc = .ok (.iload k, 2)) (hl : Ls[k]? = some (.val (.int v))) (r : WP l Z EL it n0 own h0 ws0 Q K h ws cells slots (mkF K.m (pc + 2) Ls (.int v :: st))) : WP l Z EL it n0 own h0 ws0 Q K h ws cells slots (mkF K.m pc Ls st) :=
  WP.step (fun _ _ _ P _ k => XS.iload P.1.here C.exec rfl (hb C.bytes hd) hl k) r
theorem Ok.lloadN (C : Ok l Z a0 EL it n0 own h0 ws0 Q code maxL ret nm rm K) {k : Fin 4} {v : Int64} (hd : decode code pc = .ok (.lload_n k, 1)) (hl : Ls[k.val]? = some (.val (.long v))) (r : WP l Z EL it n0 own h0 ws0 Q K h ws cells slots (mkF K.m (pc + 1) Ls (.long v :: st))) : WP l Z EL it n0 own h0 ws0 Q K h ws cells slots (mkF K.m pc Ls st) :=
  WP.step (fun _ _ _ P _ k => XS.lloadN P.1.here C.exec rfl (hb C.bytes hd) hl k) r
theorem Ok.lload (C : Ok l Z a0 EL it n0 own h0 ws0 Q code maxL ret nm rm K) {k : Nat} {v : Int64} (hd : decode code pc = .ok (.lload k, 2)) (hl : Ls[k]? = some (.val (.long v))) (r : WP l Z EL it n0 own h0 ws0 Q K h ws cells slots (mkF K.m (pc + 2) Ls (.long v :: st))) : WP l Z EL it n0 own h0 ws0 Q K h ws cells slots (mkF K.m pc Ls st) :=
  WP.step (fun _ _ _ P _ k => XS.lload P.1.here C.exec rfl (hb C.bytes hd) hl k) r
theorem Ok.iconst (C : Ok l Z a0 EL it n0 own h0 ws0 Q code maxL ret nm rm K) {i : Int} {v : Int32} (hd : decode code pc = .ok (.iconst i, 1)) (hv : Int32.ofInt i = v) (r : WP l Z EL it n0 own h0 ws0 Q K h ws cells slots (mkF K.m (pc + 1) Ls (.int v :: st))) : WP l Z EL it n0 own h0 ws0 Q K h ws cells slots (mkF K.m pc Ls st) := by
  subst hv; exact WP.step (fun _ _ _ P _ k => XS.iconst P.1.here C.exec rfl (hb C.bytes hd) k) r
theorem Ok.bipush (C : Ok l Z a0 EL it n0 own h0 ws0 Q code maxL ret nm rm K) {i : Int} {v : Int32} (hd : decode code pc = .ok (.bipush i, 2)) (hv : (Int8.ofInt i).toInt32 = v) (r : WP l Z EL it n0 own h0 ws0 Q K h ws cells slots (mkF K.m (pc + 2) Ls (.int v :: st))) : WP l Z EL it n0 own h0 ws0 Q K h ws cells slots (mkF K.m pc Ls st) := by
  subst hv; exact WP.step (fun _ _ _ P _ k => XS.bipush P.1.here C.exec rfl (hb C.bytes hd) k) r
theorem Ok.sipush (C : Ok l Z a0 EL it n0 own h0 ws0 Q code maxL ret nm rm K) {i : Int} {v : Int32} (hd : decode code pc = .ok (.sipush i, 3)) (hv : (Int16.ofInt i).toInt32 = v) (r : WP l Z EL it n0 own h0 ws0 Q K h ws cells slots (mkF K.m (pc + 3) Ls (.int v :: st))) : WP l Z EL it n0 own h0 ws0 Q K h ws cells slots (mkF K.m pc Ls st) := by
  subst hv; exact WP.step (fun _ _ _ P _ k => XS.sipush P.1.here C.exec rfl (hb C.bytes hd) k) r
theorem Ok.lconst (C : Ok l Z a0 EL it n0 own h0 ws0 Q code maxL ret nm rm K) {i : Fin 2} (hd : decode code pc = .ok (.lconst i, 1)) {v : Int64} (hv : Int64.ofNat i.val = v) (r : WP l Z EL it n0 own h0 ws0 Q K h ws cells slots (mkF K.m (pc + 1) Ls (.long v :: st))) : WP l Z EL it n0 own h0 ws0 Q K h ws cells slots (mkF K.m pc Ls st) := by
  subst hv; exact WP.step (fun _ _ _ P _ k => XS.lconst P.1.here C.exec rfl (hb C.bytes hd) k) r
theorem Ok.aconstNull (C : Ok l Z a0 EL it n0 own h0 ws0 Q code maxL ret nm rm K) (hd : decode code pc = .ok (.aconst_null, 1)) (r : WP l Z EL it n0 own h0 ws0 Q K h ws cells slots (mkF K.m (pc + 1) Ls (.null :: st))) : WP l Z EL it n0 own h0 ws0 Q K h ws cells slots (mkF K.m pc Ls st) :=
  WP.step (fun _ _ _ P _ k => XS.aconstNull P.1.here C.exec rfl (hb C.bytes hd) k) r
theorem Ok.ldcInt (C : Ok l Z a0 EL it n0 own h0 ws0 Q code maxL ret nm rm K) {index : Nat} {v : Int32} (w : (Jvm.Cond.constant own index v).before a0 Z = true) (hd : decode code pc = .ok (.ldc index, 2)) (r : WP l Z EL it n0 own h0 ws0 Q K h ws cells slots (mkF K.m (pc + 2) Ls (.int v :: st))) : WP l Z EL it n0 own h0 ws0 Q K h ws cells slots (mkF K.m pc Ls st) :=
  WP.step (fun _ _ _ P t k => P.1.ldcInt C.exec P.2.2.2.2.1 (mv P.2.2.2.1 w) (g := mkF K.m pc Ls st) rfl (hb C.bytes hd) t k) r
theorem Ok.ldcwInt (C : Ok l Z a0 EL it n0 own h0 ws0 Q code maxL ret nm rm K) {index : Nat} {v : Int32} (w : (Jvm.Cond.constant own index v).before a0 Z = true) (hd : decode code pc = .ok (.ldc_w index, 3)) (r : WP l Z EL it n0 own h0 ws0 Q K h ws cells slots (mkF K.m (pc + 3) Ls (.int v :: st))) : WP l Z EL it n0 own h0 ws0 Q K h ws cells slots (mkF K.m pc Ls st) :=
  WP.step (fun _ _ _ P t k => P.1.ldcwInt C.exec P.2.2.2.2.1 (mv P.2.2.2.1 w) (g := mkF K.m pc Ls st) rfl (hb C.bytes hd) t k) r
theorem Ok.ldc2Long (C : Ok l Z a0 EL it n0 own h0 ws0 Q code maxL ret nm rm K) {index : Nat} {v : Int64} (w : (Jvm.Cond.constantLong own index v).before a0 Z = true) (hd : decode code pc = .ok (.ldc2_w index, 3)) (r : WP l Z EL it n0 own h0 ws0 Q K h ws cells slots (mkF K.m (pc + 3) Ls (.long v :: st))) : WP l Z EL it n0 own h0 ws0 Q K h ws cells slots (mkF K.m pc Ls st) :=
  WP.step (fun _ _ _ P t k => P.1.ldc2Long C.exec P.2.2.2.2.1 (mv P.2.2.2.1 w) (g := mkF K.m pc Ls st) rfl (hb C.bytes hd) t k) r
theorem Ok.iadd (C : Ok l Z a0 EL it n0 own h0 ws0 Q code maxL ret nm rm K) {x y : Int32} (hd : decode code pc = .ok (.iadd, 1)) (r : WP l Z EL it n0 own h0 ws0 Q K h ws cells slots (mkF K.m (pc + 1) Ls (.int (x + y) :: st))) : WP l Z EL it n0 own h0 ws0 Q K h ws cells slots (mkF K.m pc Ls (.int y :: .int x :: st)) :=
  WP.step (fun _ _ _ P _ k => XS.iadd P.1.here C.exec rfl (hb C.bytes hd) rfl k) r
theorem Ok.isub (C : Ok l Z a0 EL it n0 own h0 ws0 Q code maxL ret nm rm K) {x y : Int32} (hd : decode code pc = .ok (.isub, 1)) (r : WP l Z EL it n0 own h0 ws0 Q K h ws cells slots (mkF K.m (pc + 1) Ls (.int (x - y) :: st))) : WP l Z EL it n0 own h0 ws0 Q K h ws cells slots (mkF K.m pc Ls (.int y :: .int x :: st)) :=
  WP.step (fun _ _ _ P _ k => XS.isub P.1.here C.exec rfl (hb C.bytes hd) rfl k) r
theorem Ok.imul (C : Ok l Z a0 EL it n0 own h0 ws0 Q code maxL ret nm rm K) {x y : Int32} (hd : decode code pc = .ok (.imul, 1)) (r : WP l Z EL it n0 own h0 ws0 Q K h ws cells slots (mkF K.m (pc + 1) Ls (.int (x * y) :: st))) : WP l Z EL it n0 own h0 ws0 Q K h ws cells slots (mkF K.m pc Ls (.int y :: .int x :: st)) :=
  WP.step (fun _ _ _ P _ k => XS.imul P.1.here C.exec rfl (hb C.bytes hd) rfl k) r
theorem Ok.iand (C : Ok l Z a0 EL it n0 own h0 ws0 Q code maxL ret nm rm K) {x y : Int32} (hd : decode code pc = .ok (.iand, 1)) (r : WP l Z EL it n0 own h0 ws0 Q K h ws cells slots (mkF K.m (pc + 1) Ls (.int (x &&& y) :: st))) : WP l Z EL it n0 own h0 ws0 Q K h ws cells slots (mkF K.m pc Ls (.int y :: .int x :: st)) :=
  WP.step (fun _ _ _ P _ k => XS.iand P.1.here C.exec rfl (hb C.bytes hd) rfl k) r
theorem Ok.ior (C : Ok l Z a0 EL it n0 own h0 ws0 Q code maxL ret nm rm K) {x y : Int32} (hd : decode code pc = .ok (.ior, 1)) (r : WP l Z EL it n0 own h0 ws0 Q K h ws cells slots (mkF K.m (pc + 1) Ls (.int (x ||| y) :: st))) : WP l Z EL it n0 own h0 ws0 Q K h ws cells slots (mkF K.m pc Ls (.int y :: .int x :: st)) :=
  WP.step (fun _ _ _ P _ k => XS.ior P.1.here C.exec rfl (hb C.bytes hd) rfl k) r
theorem Ok.ixor (C : Ok l Z a0 EL it n0 own h0 ws0 Q code maxL ret nm rm K) {x y : Int32} (hd : decode code pc = .ok (.ixor, 1)) (r : WP l Z EL it n0 own h0 ws0 Q K h ws cells slots (mkF K.m (pc + 1) Ls (.int (x ^^^ y) :: st))) : WP l Z EL it n0 own h0 ws0 Q K h ws cells slots (mkF K.m pc Ls (.int y :: .int x :: st)) :=
  WP.step (fun _ _ _ P _ k => XS.ixor P.1.here C.exec rfl (hb C.bytes hd) rfl k) r
theorem Ok.ladd (C : Ok l Z a0 EL it n0 own h0 ws0 Q code maxL ret nm rm K) {x y : Int64} (hd : decode code pc = .ok (.ladd, 1)) (r : WP l Z EL it n0 own h0 ws0 Q K h ws cells slots (mkF K.m (pc + 1) Ls (.long (x + y) :: st))) : WP l Z EL it n0 own h0 ws0 Q K h ws cells slots (mkF K.m pc Ls (.long y :: .long x :: st)) :=
  WP.step (fun _ _ _ P _ k => XS.ladd P.1.here C.exec rfl (hb C.bytes hd) rfl k) r
theorem Ok.lsub (C : Ok l Z a0 EL it n0 own h0 ws0 Q code maxL ret nm rm K) {x y : Int64} (hd : decode code pc = .ok (.lsub, 1)) (r : WP l Z EL it n0 own h0 ws0 Q K h ws cells slots (mkF K.m (pc + 1) Ls (.long (x - y) :: st))) : WP l Z EL it n0 own h0 ws0 Q K h ws cells slots (mkF K.m pc Ls (.long y :: .long x :: st)) :=
  WP.step (fun _ _ _ P _ k => XS.lsub P.1.here C.exec rfl (hb C.bytes hd) rfl k) r
theorem Ok.land (C : Ok l Z a0 EL it n0 own h0 ws0 Q code maxL ret nm rm K) {x y : Int64} (hd : decode code pc = .ok (.land, 1)) (r : WP l Z EL it n0 own h0 ws0 Q K h ws cells slots (mkF K.m (pc + 1) Ls (.long (x &&& y) :: st))) : WP l Z EL it n0 own h0 ws0 Q K h ws cells slots (mkF K.m pc Ls (.long y :: .long x :: st)) :=
  WP.step (fun _ _ _ P _ k => XS.land P.1.here C.exec rfl (hb C.bytes hd) rfl k) r
theorem Ok.lmul (C : Ok l Z a0 EL it n0 own h0 ws0 Q code maxL ret nm rm K) {x y : Int64} (hd : decode code pc = .ok (.lmul, 1)) (r : WP l Z EL it n0 own h0 ws0 Q K h ws cells slots (mkF K.m (pc + 1) Ls (.long (x * y) :: st))) : WP l Z EL it n0 own h0 ws0 Q K h ws cells slots (mkF K.m pc Ls (.long y :: .long x :: st)) :=
  WP.step (fun _ _ _ P _ k => XS.lmul P.1.here C.exec rfl (hb C.bytes hd) rfl k) r
theorem Ok.i2c (C : Ok l Z a0 EL it n0 own h0 ws0 Q code maxL ret nm rm K) {x : Int32} (hd : decode code pc = .ok (.i2c, 1)) (r : WP l Z EL it n0 own h0 ws0 Q K h ws cells slots (mkF K.m (pc + 1) Ls (.int (x.toUInt32.toUInt16.toUInt32.toInt32) :: st))) : WP l Z EL it n0 own h0 ws0 Q K h ws cells slots (mkF K.m pc Ls (.int x :: st)) :=
  WP.step (fun _ _ _ P _ k => XS.i2c P.1.here C.exec rfl (hb C.bytes hd) rfl k) r
theorem Ok.i2b (C : Ok l Z a0 EL it n0 own h0 ws0 Q code maxL ret nm rm K) {x : Int32} (hd : decode code pc = .ok (.i2b, 1)) (r : WP l Z EL it n0 own h0 ws0 Q K h ws cells slots (mkF K.m (pc + 1) Ls (.int (x.toInt8.toInt32) :: st))) : WP l Z EL it n0 own h0 ws0 Q K h ws cells slots (mkF K.m pc Ls (.int x :: st)) :=
  WP.step (fun _ _ _ P _ k => XS.i2b P.1.here C.exec rfl (hb C.bytes hd) rfl k) r
theorem Ok.i2l (C : Ok l Z a0 EL it n0 own h0 ws0 Q code maxL ret nm rm K) {x : Int32} (hd : decode code pc = .ok (.i2l, 1)) (r : WP l Z EL it n0 own h0 ws0 Q K h ws cells slots (mkF K.m (pc + 1) Ls (.long (x.toInt64) :: st))) : WP l Z EL it n0 own h0 ws0 Q K h ws cells slots (mkF K.m pc Ls (.int x :: st)) :=
  WP.step (fun _ _ _ P _ k => XS.i2l P.1.here C.exec rfl (hb C.bytes hd) rfl k) r
theorem Ok.l2i (C : Ok l Z a0 EL it n0 own h0 ws0 Q code maxL ret nm rm K) {x : Int64} (hd : decode code pc = .ok (.l2i, 1)) (r : WP l Z EL it n0 own h0 ws0 Q K h ws cells slots (mkF K.m (pc + 1) Ls (.int (x.toInt32) :: st))) : WP l Z EL it n0 own h0 ws0 Q K h ws cells slots (mkF K.m pc Ls (.long x :: st)) :=
  WP.step (fun _ _ _ P _ k => XS.l2i P.1.here C.exec rfl (hb C.bytes hd) rfl k) r
theorem Ok.ineg (C : Ok l Z a0 EL it n0 own h0 ws0 Q code maxL ret nm rm K) {x : Int32} (hd : decode code pc = .ok (.ineg, 1)) (r : WP l Z EL it n0 own h0 ws0 Q K h ws cells slots (mkF K.m (pc + 1) Ls (.int (-x) :: st))) : WP l Z EL it n0 own h0 ws0 Q K h ws cells slots (mkF K.m pc Ls (.int x :: st)) :=
  WP.step (fun _ _ _ P _ k => XS.ineg P.1.here C.exec rfl (hb C.bytes hd) rfl k) r
theorem Ok.ishl (C : Ok l Z a0 EL it n0 own h0 ws0 Q code maxL ret nm rm K) {x y : Int32} (hd : decode code pc = .ok (.ishl, 1)) (r : WP l Z EL it n0 own h0 ws0 Q K h ws cells slots (mkF K.m (pc + 1) Ls (.int (x <<< (y &&& 31)) :: st))) : WP l Z EL it n0 own h0 ws0 Q K h ws cells slots (mkF K.m pc Ls (.int y :: .int x :: st)) :=
  WP.step (fun _ _ _ P _ k => XS.ishl P.1.here C.exec rfl (hb C.bytes hd) rfl k) r
theorem Ok.ishr (C : Ok l Z a0 EL it n0 own h0 ws0 Q code maxL ret nm rm K) {x y : Int32} (hd : decode code pc = .ok (.ishr, 1)) (r : WP l Z EL it n0 own h0 ws0 Q K h ws cells slots (mkF K.m (pc + 1) Ls (.int (x >>> (y &&& 31)) :: st))) : WP l Z EL it n0 own h0 ws0 Q K h ws cells slots (mkF K.m pc Ls (.int y :: .int x :: st)) :=
  WP.step (fun _ _ _ P _ k => XS.ishr P.1.here C.exec rfl (hb C.bytes hd) rfl k) r
theorem Ok.iushr (C : Ok l Z a0 EL it n0 own h0 ws0 Q code maxL ret nm rm K) {x y : Int32} (hd : decode code pc = .ok (.iushr, 1)) (r : WP l Z EL it n0 own h0 ws0 Q K h ws cells slots (mkF K.m (pc + 1) Ls (.int (x.toUInt32 >>> (y &&& 31).toUInt32).toInt32 :: st))) : WP l Z EL it n0 own h0 ws0 Q K h ws cells slots (mkF K.m pc Ls (.int y :: .int x :: st)) :=
  WP.step (fun _ _ _ P _ k => XS.iushr P.1.here C.exec rfl (hb C.bytes hd) rfl k) r
theorem Ok.lushr (C : Ok l Z a0 EL it n0 own h0 ws0 Q code maxL ret nm rm K) {x : Int64} {y : Int32} (hd : decode code pc = .ok (.lushr, 1)) (r : WP l Z EL it n0 own h0 ws0 Q K h ws cells slots (mkF K.m (pc + 1) Ls (.long (x.toUInt64 >>> (y &&& 0x3f).toInt64.toUInt64).toInt64 :: st))) : WP l Z EL it n0 own h0 ws0 Q K h ws cells slots (mkF K.m pc Ls (.int y :: .long x :: st)) :=
  WP.step (fun _ _ _ P _ k => XS.lushr P.1.here C.exec rfl (hb C.bytes hd) rfl k) r
theorem Ok.idiv (C : Ok l Z a0 EL it n0 own h0 ws0 Q code maxL ret nm rm K) {x y : Int32} (hy : y ≠ 0) (hd : decode code pc = .ok (.idiv, 1)) (r : WP l Z EL it n0 own h0 ws0 Q K h ws cells slots (mkF K.m (pc + 1) Ls (.int (x / y) :: st))) : WP l Z EL it n0 own h0 ws0 Q K h ws cells slots (mkF K.m pc Ls (.int y :: .int x :: st)) :=
  WP.step (fun _ _ _ P _ k => XS.idiv P.1.here C.exec rfl (hb C.bytes hd) rfl hy k) r
theorem Ok.irem (C : Ok l Z a0 EL it n0 own h0 ws0 Q code maxL ret nm rm K) {x y : Int32} (hy : y ≠ 0) (hd : decode code pc = .ok (.irem, 1)) (r : WP l Z EL it n0 own h0 ws0 Q K h ws cells slots (mkF K.m (pc + 1) Ls (.int (x % y) :: st))) : WP l Z EL it n0 own h0 ws0 Q K h ws cells slots (mkF K.m pc Ls (.int y :: .int x :: st)) :=
  WP.step (fun _ _ _ P _ k => iremM P.1 C.exec (g := mkF K.m pc Ls (.int y :: .int x :: st)) rfl (hb C.bytes hd) rfl hy k) r
theorem Ok.ldiv (C : Ok l Z a0 EL it n0 own h0 ws0 Q code maxL ret nm rm K) {x y : Int64} (hy : y ≠ 0) (hd : decode code pc = .ok (.ldiv, 1)) (r : WP l Z EL it n0 own h0 ws0 Q K h ws cells slots (mkF K.m (pc + 1) Ls (.long (x / y) :: st))) : WP l Z EL it n0 own h0 ws0 Q K h ws cells slots (mkF K.m pc Ls (.long y :: .long x :: st)) :=
  WP.step (fun _ _ _ P _ k => XS.ldiv P.1.here C.exec rfl (hb C.bytes hd) rfl hy k) r
theorem Ok.lrem (C : Ok l Z a0 EL it n0 own h0 ws0 Q code maxL ret nm rm K) {x y : Int64} (hy : y ≠ 0) (hd : decode code pc = .ok (.lrem, 1)) (r : WP l Z EL it n0 own h0 ws0 Q K h ws cells slots (mkF K.m (pc + 1) Ls (.long (x % y) :: st))) : WP l Z EL it n0 own h0 ws0 Q K h ws cells slots (mkF K.m pc Ls (.long y :: .long x :: st)) :=
  WP.step (fun _ _ _ P _ k => XS.lrem P.1.here C.exec rfl (hb C.bytes hd) rfl hy (by rw [lrem_mod]; exact k)) r
theorem Ok.lcmp (C : Ok l Z a0 EL it n0 own h0 ws0 Q code maxL ret nm rm K) {x y : Int64} (hd : decode code pc = .ok (.lcmp, 1)) (r : WP l Z EL it n0 own h0 ws0 Q K h ws cells slots (mkF K.m (pc + 1) Ls (.int (lcmpW x y) :: st))) : WP l Z EL it n0 own h0 ws0 Q K h ws cells slots (mkF K.m pc Ls (.long y :: .long x :: st)) :=
  WP.step (fun _ _ _ P _ k => XS.lcmp P.1.here C.exec rfl (hb C.bytes hd) rfl k) r
theorem Ok.dup (C : Ok l Z a0 EL it n0 own h0 ws0 Q code maxL ret nm rm K) {x : Value} (hc : x.category = 1) (hd : decode code pc = .ok (.dup, 1)) (r : WP l Z EL it n0 own h0 ws0 Q K h ws cells slots (mkF K.m (pc + 1) Ls (x :: x :: st))) : WP l Z EL it n0 own h0 ws0 Q K h ws cells slots (mkF K.m pc Ls (x :: st)) :=
  WP.step (fun _ _ _ P _ k => XS.dup P.1.here C.exec rfl (hb C.bytes hd) rfl hc k) r
theorem Ok.pop (C : Ok l Z a0 EL it n0 own h0 ws0 Q code maxL ret nm rm K) {x : Value} (hc : x.category = 1) (hd : decode code pc = .ok (.pop, 1)) (r : WP l Z EL it n0 own h0 ws0 Q K h ws cells slots (mkF K.m (pc + 1) Ls st)) : WP l Z EL it n0 own h0 ws0 Q K h ws cells slots (mkF K.m pc Ls (x :: st)) :=
  WP.step (fun _ _ _ P _ k => XS.pop P.1.here C.exec rfl (hb C.bytes hd) rfl hc k) r
theorem Ok.istoreN (C : Ok l Z a0 EL it n0 own h0 ws0 Q code maxL ret nm rm K) {k : Fin 4} {x : Int32} (L' : Array Slot) (hd : decode code pc = .ok (.istore_n k, 1)) (hl : storeLocals Ls k.val (.int x) = some L') (r : WP l Z EL it n0 own h0 ws0 Q K h ws cells slots (mkF K.m (pc + 1) L' st)) : WP l Z EL it n0 own h0 ws0 Q K h ws cells slots (mkF K.m pc Ls (.int x :: st)) :=
  WP.step (fun _ _ _ P _ k => XS.istoreN P.1.here C.exec rfl (hb C.bytes hd) rfl hl k) r
theorem Ok.istore (C : Ok l Z a0 EL it n0 own h0 ws0 Q code maxL ret nm rm K) {k : Nat} {x : Int32} (L' : Array Slot) (hd : decode code pc = .ok (.istore k, 2)) (hl : storeLocals Ls k (.int x) = some L') (r : WP l Z EL it n0 own h0 ws0 Q K h ws cells slots (mkF K.m (pc + 2) L' st)) : WP l Z EL it n0 own h0 ws0 Q K h ws cells slots (mkF K.m pc Ls (.int x :: st)) :=
  WP.step (fun _ _ _ P _ k => XS.istore P.1.here C.exec rfl (hb C.bytes hd) rfl hl k) r
theorem Ok.astoreN (C : Ok l Z a0 EL it n0 own h0 ws0 Q code maxL ret nm rm K) {k : Fin 4} {x : Value} (L' : Array Slot) (hd : decode code pc = .ok (.astore_n k, 1)) (hv : x.isRef = true) (hl : storeLocals Ls k.val x = some L') (r : WP l Z EL it n0 own h0 ws0 Q K h ws cells slots (mkF K.m (pc + 1) L' st)) : WP l Z EL it n0 own h0 ws0 Q K h ws cells slots (mkF K.m pc Ls (x :: st)) :=
  WP.step (fun _ _ _ P _ k => XS.astoreN P.1.here C.exec rfl (hb C.bytes hd) rfl hv hl k) r
theorem Ok.astore (C : Ok l Z a0 EL it n0 own h0 ws0 Q code maxL ret nm rm K) {k : Nat} {x : Value} (L' : Array Slot) (hd : decode code pc = .ok (.astore k, 2)) (hv : x.isRef = true) (hl : storeLocals Ls k x = some L') (r : WP l Z EL it n0 own h0 ws0 Q K h ws cells slots (mkF K.m (pc + 2) L' st)) : WP l Z EL it n0 own h0 ws0 Q K h ws cells slots (mkF K.m pc Ls (x :: st)) :=
  WP.step (fun _ _ _ P _ k => XS.astore P.1.here C.exec rfl (hb C.bytes hd) rfl hv hl k) r
theorem Ok.lstoreN (C : Ok l Z a0 EL it n0 own h0 ws0 Q code maxL ret nm rm K) {k : Fin 4} {x : Int64} (L' : Array Slot) (hd : decode code pc = .ok (.lstore_n k, 1)) (hl : storeLocals Ls k.val (.long x) = some L') (r : WP l Z EL it n0 own h0 ws0 Q K h ws cells slots (mkF K.m (pc + 1) L' st)) : WP l Z EL it n0 own h0 ws0 Q K h ws cells slots (mkF K.m pc Ls (.long x :: st)) :=
  WP.step (fun _ _ _ P _ k => XS.lstoreN P.1.here C.exec rfl (hb C.bytes hd) rfl hl k) r
theorem Ok.lstore (C : Ok l Z a0 EL it n0 own h0 ws0 Q code maxL ret nm rm K) {k : Nat} {x : Int64} (L' : Array Slot) (hd : decode code pc = .ok (.lstore k, 2)) (hl : storeLocals Ls k (.long x) = some L') (r : WP l Z EL it n0 own h0 ws0 Q K h ws cells slots (mkF K.m (pc + 2) L' st)) : WP l Z EL it n0 own h0 ws0 Q K h ws cells slots (mkF K.m pc Ls (.long x :: st)) :=
  WP.step (fun _ _ _ P _ k => XS.lstore P.1.here C.exec rfl (hb C.bytes hd) rfl hl k) r
theorem Ok.iinc (C : Ok l Z a0 EL it n0 own h0 ws0 Q code maxL ret nm rm K) {k : Nat} {cst : Int} {x z : Int32} (L' : Array Slot) (hd : decode code pc = .ok (.iinc k cst, 3)) (hl : Ls[k]? = some (.val (.int x))) (hz : Int32.ofInt cst = z) (hl' : storeLocals Ls k (.int (x + z)) = some L') (r : WP l Z EL it n0 own h0 ws0 Q K h ws cells slots (mkF K.m (pc + 3) L' st)) : WP l Z EL it n0 own h0 ws0 Q K h ws cells slots (mkF K.m pc Ls st) := by
  subst hz; exact WP.step (fun _ _ _ P _ k => XS.iinc P.1.here C.exec rfl (hb C.bytes hd) hl hl' k) r
theorem Ok.goto (C : Ok l Z a0 EL it n0 own h0 ws0 Q code maxL ret nm rm K) {o : Int} (pc' : Nat) (hd : decode code pc = .ok (.goto o, 3)) (ho : 0 ≤ (pc : Int) + o) (hp : ((pc : Int) + o).toNat = pc') (r : WP l Z EL it n0 own h0 ws0 Q K h ws cells slots (mkF K.m pc' Ls st)) : WP l Z EL it n0 own h0 ws0 Q K h ws cells slots (mkF K.m pc Ls st) :=
  WP.step (fun _ _ _ P _ k => XS.goto P.1.here C.exec rfl rfl (hb C.bytes hd) ho hp k) r
/-! branches -/
theorem Ok.icmp (C : Ok l Z a0 EL it n0 own h0 ws0 Q code maxL ret nm rm K) {cd : ClassFile.Cond} {x y : Int32} {o : Int} (pc' : Nat) (hd : decode code pc = .ok (.if_icmp cd o, 3)) (ho : 0 ≤ (pc : Int) + o) (hp : ((pc : Int) + o).toNat = pc') (t : if_icmp.holds cd x y = true → WP l Z EL it n0 own h0 ws0 Q K h ws cells slots (mkF K.m pc' Ls st)) (f : if_icmp.holds cd x y = false → WP l Z EL it n0 own h0 ws0 Q K h ws cells slots (mkF K.m (pc + 3) Ls st)) : WP l Z EL it n0 own h0 ws0 Q K h ws cells slots (mkF K.m pc Ls (.int y :: .int x :: st)) := by
  cases q : if_icmp.holds cd x y
  · exact WP.step (fun _ _ _ P _ k => XS.icmpNo P.1.here C.exec rfl (hb C.bytes hd) rfl q k) (f q)
  · exact WP.step (fun _ _ _ P _ k => XS.icmpYes P.1.here C.exec rfl rfl (hb C.bytes hd) rfl q ho hp k) (t q)
theorem Ok.ifc (C : Ok l Z a0 EL it n0 own h0 ws0 Q code maxL ret nm rm K) {cd : ClassFile.Cond} {x : Int32} {o : Int} (pc' : Nat) (hd : decode code pc = .ok (.ifCond cd o, 3)) (ho : 0 ≤ (pc : Int) + o) (hp : ((pc : Int) + o).toNat = pc') (t : if_icmp.holds cd x 0 = true → WP l Z EL it n0 own h0 ws0 Q K h ws cells slots (mkF K.m pc' Ls st)) (f : if_icmp.holds cd x 0 = false → WP l Z EL it n0 own h0 ws0 Q K h ws cells slots (mkF K.m (pc + 3) Ls st)) : WP l Z EL it n0 own h0 ws0 Q K h ws cells slots (mkF K.m pc Ls (.int x :: st)) := by
  cases q : if_icmp.holds cd x 0
  · exact WP.step (fun _ _ _ P _ k => XS.ifNo P.1.here C.exec rfl (hb C.bytes hd) rfl (by rw [if0]; exact q) k) (f q)
  · exact WP.step (fun _ _ _ P _ k => XS.ifYes P.1.here C.exec rfl rfl (hb C.bytes hd) rfl (by rw [if0]; exact q) ho hp k) (t q)
theorem hEq (x y : Int32) : (if_icmp.holds .eq x y = true ↔ x.toInt = y.toInt) ∧ (if_icmp.holds .eq x y = false ↔ x.toInt ≠ y.toInt) := by simp [if_icmp.holds, Int32.toInt_inj]
theorem hNe (x y : Int32) : (if_icmp.holds .ne x y = true ↔ x.toInt ≠ y.toInt) ∧ (if_icmp.holds .ne x y = false ↔ x.toInt = y.toInt) := by simp [if_icmp.holds, Int32.toInt_inj]
theorem hLt (x y : Int32) : (if_icmp.holds .lt x y = true ↔ x.toInt < y.toInt) ∧ (if_icmp.holds .lt x y = false ↔ y.toInt ≤ x.toInt) := by simp [if_icmp.holds, Int32.lt_iff_toInt_lt, Int32.le_iff_toInt_le]
theorem hGe (x y : Int32) : (if_icmp.holds .ge x y = true ↔ y.toInt ≤ x.toInt) ∧ (if_icmp.holds .ge x y = false ↔ x.toInt < y.toInt) := by simp [if_icmp.holds, Int32.lt_iff_toInt_lt, Int32.le_iff_toInt_le]
theorem hGt (x y : Int32) : (if_icmp.holds .gt x y = true ↔ y.toInt < x.toInt) ∧ (if_icmp.holds .gt x y = false ↔ x.toInt ≤ y.toInt) := by simp [if_icmp.holds, Int32.lt_iff_toInt_lt, Int32.le_iff_toInt_le]
theorem hLe (x y : Int32) : (if_icmp.holds .le x y = true ↔ x.toInt ≤ y.toInt) ∧ (if_icmp.holds .le x y = false ↔ y.toInt < x.toInt) := by simp [if_icmp.holds, Int32.lt_iff_toInt_lt, Int32.le_iff_toInt_le]
theorem Ok.icmp_eq (C : Ok l Z a0 EL it n0 own h0 ws0 Q code maxL ret nm rm K) {x y : Int32} {o : Int} (pc' : Nat) (hd : decode code pc = .ok (.if_icmp .eq o, 3)) (ho : 0 ≤ (pc : Int) + o) (hp : ((pc : Int) + o).toNat = pc') (t : x.toInt = y.toInt → WP l Z EL it n0 own h0 ws0 Q K h ws cells slots (mkF K.m pc' Ls st)) (f : x.toInt ≠ y.toInt → WP l Z EL it n0 own h0 ws0 Q K h ws cells slots (mkF K.m (pc + 3) Ls st)) : WP l Z EL it n0 own h0 ws0 Q K h ws cells slots (mkF K.m pc Ls (.int y :: .int x :: st)) :=
  C.icmp pc' hd ho hp (fun q => t ((hEq x y).1.mp q)) (fun q => f ((hEq x y).2.mp q))
theorem Ok.ifc_eq (C : Ok l Z a0 EL it n0 own h0 ws0 Q code maxL ret nm rm K) {x : Int32} {o : Int} (pc' : Nat) (hd : decode code pc = .ok (.ifCond .eq o, 3)) (ho : 0 ≤ (pc : Int) + o) (hp : ((pc : Int) + o).toNat = pc') (t : x.toInt = 0 → WP l Z EL it n0 own h0 ws0 Q K h ws cells slots (mkF K.m pc' Ls st)) (f : x.toInt ≠ 0 → WP l Z EL it n0 own h0 ws0 Q K h ws cells slots (mkF K.m (pc + 3) Ls st)) : WP l Z EL it n0 own h0 ws0 Q K h ws cells slots (mkF K.m pc Ls (.int x :: st)) :=
  C.ifc pc' hd ho hp (fun q => t ((hEq x 0).1.mp q)) (fun q => f ((hEq x 0).2.mp q))
theorem Ok.icmp_ne (C : Ok l Z a0 EL it n0 own h0 ws0 Q code maxL ret nm rm K) {x y : Int32} {o : Int} (pc' : Nat) (hd : decode code pc = .ok (.if_icmp .ne o, 3)) (ho : 0 ≤ (pc : Int) + o) (hp : ((pc : Int) + o).toNat = pc') (t : x.toInt ≠ y.toInt → WP l Z EL it n0 own h0 ws0 Q K h ws cells slots (mkF K.m pc' Ls st)) (f : x.toInt = y.toInt → WP l Z EL it n0 own h0 ws0 Q K h ws cells slots (mkF K.m (pc + 3) Ls st)) : WP l Z EL it n0 own h0 ws0 Q K h ws cells slots (mkF K.m pc Ls (.int y :: .int x :: st)) :=
  C.icmp pc' hd ho hp (fun q => t ((hNe x y).1.mp q)) (fun q => f ((hNe x y).2.mp q))
theorem Ok.ifc_ne (C : Ok l Z a0 EL it n0 own h0 ws0 Q code maxL ret nm rm K) {x : Int32} {o : Int} (pc' : Nat) (hd : decode code pc = .ok (.ifCond .ne o, 3)) (ho : 0 ≤ (pc : Int) + o) (hp : ((pc : Int) + o).toNat = pc') (t : x.toInt ≠ 0 → WP l Z EL it n0 own h0 ws0 Q K h ws cells slots (mkF K.m pc' Ls st)) (f : x.toInt = 0 → WP l Z EL it n0 own h0 ws0 Q K h ws cells slots (mkF K.m (pc + 3) Ls st)) : WP l Z EL it n0 own h0 ws0 Q K h ws cells slots (mkF K.m pc Ls (.int x :: st)) :=
  C.ifc pc' hd ho hp (fun q => t ((hNe x 0).1.mp q)) (fun q => f ((hNe x 0).2.mp q))
theorem Ok.icmp_lt (C : Ok l Z a0 EL it n0 own h0 ws0 Q code maxL ret nm rm K) {x y : Int32} {o : Int} (pc' : Nat) (hd : decode code pc = .ok (.if_icmp .lt o, 3)) (ho : 0 ≤ (pc : Int) + o) (hp : ((pc : Int) + o).toNat = pc') (t : x.toInt < y.toInt → WP l Z EL it n0 own h0 ws0 Q K h ws cells slots (mkF K.m pc' Ls st)) (f : y.toInt ≤ x.toInt → WP l Z EL it n0 own h0 ws0 Q K h ws cells slots (mkF K.m (pc + 3) Ls st)) : WP l Z EL it n0 own h0 ws0 Q K h ws cells slots (mkF K.m pc Ls (.int y :: .int x :: st)) :=
  C.icmp pc' hd ho hp (fun q => t ((hLt x y).1.mp q)) (fun q => f ((hLt x y).2.mp q))
theorem Ok.ifc_lt (C : Ok l Z a0 EL it n0 own h0 ws0 Q code maxL ret nm rm K) {x : Int32} {o : Int} (pc' : Nat) (hd : decode code pc = .ok (.ifCond .lt o, 3)) (ho : 0 ≤ (pc : Int) + o) (hp : ((pc : Int) + o).toNat = pc') (t : x.toInt < 0 → WP l Z EL it n0 own h0 ws0 Q K h ws cells slots (mkF K.m pc' Ls st)) (f : 0 ≤ x.toInt → WP l Z EL it n0 own h0 ws0 Q K h ws cells slots (mkF K.m (pc + 3) Ls st)) : WP l Z EL it n0 own h0 ws0 Q K h ws cells slots (mkF K.m pc Ls (.int x :: st)) :=
  C.ifc pc' hd ho hp (fun q => t ((hLt x 0).1.mp q)) (fun q => f ((hLt x 0).2.mp q))
theorem Ok.icmp_ge (C : Ok l Z a0 EL it n0 own h0 ws0 Q code maxL ret nm rm K) {x y : Int32} {o : Int} (pc' : Nat) (hd : decode code pc = .ok (.if_icmp .ge o, 3)) (ho : 0 ≤ (pc : Int) + o) (hp : ((pc : Int) + o).toNat = pc') (t : y.toInt ≤ x.toInt → WP l Z EL it n0 own h0 ws0 Q K h ws cells slots (mkF K.m pc' Ls st)) (f : x.toInt < y.toInt → WP l Z EL it n0 own h0 ws0 Q K h ws cells slots (mkF K.m (pc + 3) Ls st)) : WP l Z EL it n0 own h0 ws0 Q K h ws cells slots (mkF K.m pc Ls (.int y :: .int x :: st)) :=
  C.icmp pc' hd ho hp (fun q => t ((hGe x y).1.mp q)) (fun q => f ((hGe x y).2.mp q))
theorem Ok.ifc_ge (C : Ok l Z a0 EL it n0 own h0 ws0 Q code maxL ret nm rm K) {x : Int32} {o : Int} (pc' : Nat) (hd : decode code pc = .ok (.ifCond .ge o, 3)) (ho : 0 ≤ (pc : Int) + o) (hp : ((pc : Int) + o).toNat = pc') (t : 0 ≤ x.toInt → WP l Z EL it n0 own h0 ws0 Q K h ws cells slots (mkF K.m pc' Ls st)) (f : x.toInt < 0 → WP l Z EL it n0 own h0 ws0 Q K h ws cells slots (mkF K.m (pc + 3) Ls st)) : WP l Z EL it n0 own h0 ws0 Q K h ws cells slots (mkF K.m pc Ls (.int x :: st)) :=
  C.ifc pc' hd ho hp (fun q => t ((hGe x 0).1.mp q)) (fun q => f ((hGe x 0).2.mp q))
theorem Ok.icmp_gt (C : Ok l Z a0 EL it n0 own h0 ws0 Q code maxL ret nm rm K) {x y : Int32} {o : Int} (pc' : Nat) (hd : decode code pc = .ok (.if_icmp .gt o, 3)) (ho : 0 ≤ (pc : Int) + o) (hp : ((pc : Int) + o).toNat = pc') (t : y.toInt < x.toInt → WP l Z EL it n0 own h0 ws0 Q K h ws cells slots (mkF K.m pc' Ls st)) (f : x.toInt ≤ y.toInt → WP l Z EL it n0 own h0 ws0 Q K h ws cells slots (mkF K.m (pc + 3) Ls st)) : WP l Z EL it n0 own h0 ws0 Q K h ws cells slots (mkF K.m pc Ls (.int y :: .int x :: st)) :=
  C.icmp pc' hd ho hp (fun q => t ((hGt x y).1.mp q)) (fun q => f ((hGt x y).2.mp q))
theorem Ok.ifc_gt (C : Ok l Z a0 EL it n0 own h0 ws0 Q code maxL ret nm rm K) {x : Int32} {o : Int} (pc' : Nat) (hd : decode code pc = .ok (.ifCond .gt o, 3)) (ho : 0 ≤ (pc : Int) + o) (hp : ((pc : Int) + o).toNat = pc') (t : 0 < x.toInt → WP l Z EL it n0 own h0 ws0 Q K h ws cells slots (mkF K.m pc' Ls st)) (f : x.toInt ≤ 0 → WP l Z EL it n0 own h0 ws0 Q K h ws cells slots (mkF K.m (pc + 3) Ls st)) : WP l Z EL it n0 own h0 ws0 Q K h ws cells slots (mkF K.m pc Ls (.int x :: st)) :=
  C.ifc pc' hd ho hp (fun q => t ((hGt x 0).1.mp q)) (fun q => f ((hGt x 0).2.mp q))
theorem Ok.icmp_le (C : Ok l Z a0 EL it n0 own h0 ws0 Q code maxL ret nm rm K) {x y : Int32} {o : Int} (pc' : Nat) (hd : decode code pc = .ok (.if_icmp .le o, 3)) (ho : 0 ≤ (pc : Int) + o) (hp : ((pc : Int) + o).toNat = pc') (t : x.toInt ≤ y.toInt → WP l Z EL it n0 own h0 ws0 Q K h ws cells slots (mkF K.m pc' Ls st)) (f : y.toInt < x.toInt → WP l Z EL it n0 own h0 ws0 Q K h ws cells slots (mkF K.m (pc + 3) Ls st)) : WP l Z EL it n0 own h0 ws0 Q K h ws cells slots (mkF K.m pc Ls (.int y :: .int x :: st)) :=
  C.icmp pc' hd ho hp (fun q => t ((hLe x y).1.mp q)) (fun q => f ((hLe x y).2.mp q))
theorem Ok.ifc_le (C : Ok l Z a0 EL it n0 own h0 ws0 Q code maxL ret nm rm K) {x : Int32} {o : Int} (pc' : Nat) (hd : decode code pc = .ok (.ifCond .le o, 3)) (ho : 0 ≤ (pc : Int) + o) (hp : ((pc : Int) + o).toNat = pc') (t : x.toInt ≤ 0 → WP l Z EL it n0 own h0 ws0 Q K h ws cells slots (mkF K.m pc' Ls st)) (f : 0 < x.toInt → WP l Z EL it n0 own h0 ws0 Q K h ws cells slots (mkF K.m (pc + 3) Ls st)) : WP l Z EL it n0 own h0 ws0 Q K h ws cells slots (mkF K.m pc Ls (.int x :: st)) :=
  C.ifc pc' hd ho hp (fun q => t ((hLe x 0).1.mp q)) (fun q => f ((hLe x 0).2.mp q))
theorem Ok.ifnullY (C : Ok l Z a0 EL it n0 own h0 ws0 Q code maxL ret nm rm K) {o : Int} (pc' : Nat) (hd : decode code pc = .ok (.ifnull o, 3)) (ho : 0 ≤ (pc : Int) + o) (hp : ((pc : Int) + o).toNat = pc') (r : WP l Z EL it n0 own h0 ws0 Q K h ws cells slots (mkF K.m pc' Ls st)) : WP l Z EL it n0 own h0 ws0 Q K h ws cells slots (mkF K.m pc Ls (.null :: st)) :=
  WP.step (fun _ _ _ P _ k => XS.ifnullYes P.1.here C.exec rfl rfl (hb C.bytes hd) rfl ho hp k) r
theorem Ok.ifnullN (C : Ok l Z a0 EL it n0 own h0 ws0 Q code maxL ret nm rm K) {o : Int} {b : Nat} (hd : decode code pc = .ok (.ifnull o, 3)) (r : WP l Z EL it n0 own h0 ws0 Q K h ws cells slots (mkF K.m (pc + 3) Ls st)) : WP l Z EL it n0 own h0 ws0 Q K h ws cells slots (mkF K.m pc Ls (.ref b :: st)) :=
  WP.step (fun _ _ _ P _ k => XS.ifnullNo P.1.here C.exec rfl (hb C.bytes hd) rfl k) r
theorem Ok.ifnonnullY (C : Ok l Z a0 EL it n0 own h0 ws0 Q code maxL ret nm rm K) {o : Int} {b : Nat} (pc' : Nat) (hd : decode code pc = .ok (.ifnonnull o, 3)) (ho : 0 ≤ (pc : Int) + o) (hp : ((pc : Int) + o).toNat = pc') (r : WP l Z EL it n0 own h0 ws0 Q K h ws cells slots (mkF K.m pc' Ls st)) : WP l Z EL it n0 own h0 ws0 Q K h ws cells slots (mkF K.m pc Ls (.ref b :: st)) :=
  WP.step (fun _ _ _ P _ k => XS.ifnonnullYes P.1.here C.exec rfl rfl (hb C.bytes hd) rfl ho hp k) r
theorem Ok.ifnonnullN (C : Ok l Z a0 EL it n0 own h0 ws0 Q code maxL ret nm rm K) {o : Int} (hd : decode code pc = .ok (.ifnonnull o, 3)) (r : WP l Z EL it n0 own h0 ws0 Q K h ws cells slots (mkF K.m (pc + 3) Ls st)) : WP l Z EL it n0 own h0 ws0 Q K h ws cells slots (mkF K.m pc Ls (.null :: st)) :=
  WP.step (fun _ _ _ P _ k => XS.ifnonnullNo P.1.here C.exec rfl (hb C.bytes hd) rfl k) r
theorem Ok.acmp (C : Ok l Z a0 EL it n0 own h0 ws0 Q code maxL ret nm rm K) {cd : ACond} {x y : Value} {o : Int} (pc' : Nat) (same : Bool) (hd : decode code pc = .ok (.if_acmp cd o, 3)) (h1 : x.isRef = true) (h2 : y.isRef = true) (hq : decide (x = y) = same) (ho : 0 ≤ (pc : Int) + o) (hp : pc' = if acV cd same = true then ((pc : Int) + o).toNat else pc + 3) (r : WP l Z EL it n0 own h0 ws0 Q K h ws cells slots (mkF K.m pc' Ls st)) : WP l Z EL it n0 own h0 ws0 Q K h ws cells slots (mkF K.m pc Ls (y :: x :: st)) :=
  WP.step (fun _ _ _ P _ k => RoadKit.acmp P.1 C.exec (g := mkF K.m pc Ls (y :: x :: st)) rfl h1 h2 rfl (hb C.bytes hd) rfl hq ho hp k) r
theorem Ok.tswIn (C : Ok l Z a0 EL it n0 own h0 ws0 Q code maxL ret nm rm K) {dflt low high : Int} {offs : Array Int} {len : Nat} {o : Int} {i : Int32} (pc' : Nat) (hd : decode code pc = .ok (.tableswitch dflt low high offs, len)) (hin : ¬ (i.toInt < low ∨ i.toInt > high)) (hoff : offs[(i.toInt - low).toNat]? = some o) (ho : 0 ≤ (pc : Int) + o) (hp : ((pc : Int) + o).toNat = pc') (r : WP l Z EL it n0 own h0 ws0 Q K h ws cells slots (mkF K.m pc' Ls st)) : WP l Z EL it n0 own h0 ws0 Q K h ws cells slots (mkF K.m pc Ls (.int i :: st)) :=
  WP.step (fun _ _ _ P _ k => XS.tswIn P.1.here C.exec rfl rfl (hb C.bytes hd) rfl hin hoff ho hp k) r
theorem Ok.tswOut (C : Ok l Z a0 EL it n0 own h0 ws0 Q code maxL ret nm rm K) {dflt low high : Int} {offs : Array Int} {len : Nat} {i : Int32} (pc' : Nat) (hd : decode code pc = .ok (.tableswitch dflt low high offs, len)) (hout : i.toInt < low ∨ i.toInt > high) (ho : 0 ≤ (pc : Int) + dflt) (hp : ((pc : Int) + dflt).toNat = pc') (r : WP l Z EL it n0 own h0 ws0 Q K h ws cells slots (mkF K.m pc' Ls st)) : WP l Z EL it n0 own h0 ws0 Q K h ws cells slots (mkF K.m pc Ls (.int i :: st)) :=
  WP.step (fun _ _ _ P _ k => XS.tswOut P.1.here C.exec rfl rfl (hb C.bytes hd) rfl hout ho hp k) r
/-! the heap -/
theorem Ok.getF (C : Ok l Z a0 EL it n0 own h0 ws0 Q code maxL ret nm rm K) {R0 O n d host : String} {index : Nat} {a : Nat} {v : Value} (w : (Jvm.Cond.fieldLink own index R0 n d).before a0 Z = true ∨ (Jvm.Cond.fieldLinkNest own index R0 n d host).before a0 Z = true) (via : Via Z R0 O n d) (F : Fld Z h a O n d v) (hd : decode code pc = .ok (.getfield index, 3))
    (r : WP l Z EL it n0 own h0 ws0 Q K h ws cells slots (mkF K.m (pc + 3) Ls (v :: st))) : WP l Z EL it n0 own h0 ws0 Q K h ws cells slots (mkF K.m pc Ls (.ref a :: st)) := by
  intro vm T locs P
  obtain ⟨T', X', e', s'⟩ := RoadKit.getF P.1 C.exec P.2.2.2.1 P.2.2.2.2.1 w via P.2.1 F (g := mkF K.m pc Ls (.ref a :: st)) rfl rfl (hb C.bytes hd)
  exact Goes.of s' (r vm T' locs ⟨X', e', P.2.2⟩)
theorem Ok.getS (C : Ok l Z a0 EL it n0 own h0 ws0 Q code maxL ret nm rm K) {R0 O n d : String} {index : Nat} {v : Value} (w : (Jvm.Cond.fieldLink own index R0 n d).before a0 Z = true) (via : Via Z R0 O n d) (F : Sta Z Z.heap O n d v) (hd : decode code pc = .ok (.getstatic index, 3))
    (r : WP l Z EL it n0 own h0 ws0 Q K h ws cells slots (mkF K.m (pc + 3) Ls (v :: st))) : WP l Z EL it n0 own h0 ws0 Q K h ws cells slots (mkF K.m pc Ls st) := by
  intro vm T locs P
  obtain ⟨T', X', e', s'⟩ := RoadKit.getS (host := "") P.1 C.exec P.2.2.2.1 P.2.2.2.2.1 w via P.2.1 (F.ext P.2.2.2.2.2.2.2.2.1.2) (g := mkF K.m pc Ls st) rfl (hb C.bytes hd)
  exact Goes.of s' (r vm T' locs ⟨X', e', P.2.2⟩)
theorem Ok.castY (C : Ok l Z a0 EL it n0 own h0 ws0 Q code maxL ret nm rm K) {J : String} {index : Nat} {a : Nat} (w : (Jvm.Cond.classLink own index J).before a0 Z = true) (F : Ins Z h a J true) (hd : decode code pc = .ok (.checkcast index, 3))
    (r : WP l Z EL it n0 own h0 ws0 Q K h ws cells slots (mkF K.m (pc + 3) Ls (.ref a :: st))) : WP l Z EL it n0 own h0 ws0 Q K h ws cells slots (mkF K.m pc Ls (.ref a :: st)) := by
  intro vm T locs P
  obtain ⟨T', X', e', s'⟩ := RoadKit.castY P.1 C.exec P.2.2.2.1 P.2.2.2.2.1 w P.2.1 F (g := mkF K.m pc Ls (.ref a :: st)) rfl rfl (hb C.bytes hd)
  exact Goes.of s' (r vm T' locs ⟨X', e', P.2.2⟩)
theorem Ok.instY (C : Ok l Z a0 EL it n0 own h0 ws0 Q code maxL ret nm rm K) {J : String} {index : Nat} {a : Nat} (w : (Jvm.Cond.classLink own index J).before a0 Z = true) (F : Ins Z h a J true) (hd : decode code pc = .ok (.instanceof index, 3))
    (r : WP l Z EL it n0 own h0 ws0 Q K h ws cells slots (mkF K.m (pc + 3) Ls (.int 1 :: st))) : WP l Z EL it n0 own h0 ws0 Q K h ws cells slots (mkF K.m pc Ls (.ref a :: st)) := by
  intro vm T locs P
  obtain ⟨T', X', e', s'⟩ := RoadKit.instY P.1 C.exec P.2.2.2.1 P.2.2.2.2.1 w P.2.1 F (g := mkF K.m pc Ls (.ref a :: st)) rfl rfl (hb C.bytes hd)
  exact Goes.of s' (r vm T' locs ⟨X', e', P.2.2⟩)
theorem keep_ext {h h' : Heap} (E : Ext h h') : Keep h h' [] := (Keep.refl h []).ext E
theorem Ok.new (C : Ok l Z a0 EL it n0 own h0 ws0 Q code maxL ret nm rm K) {J : String} {index n : Nat} (w : (Jvm.Cond.classLink own index J).before a0 Z = true) (wi : (Jvm.Cond.instantiable J n).before a0 Z = true) (wz : (Jvm.Cond.initialized J).before a0 Z = true) (hd : decode code pc = .ok (.new index, 3)) (hc : cells + 1 ≤ rm.cells) (hl : slots + n ≤ rm.slots)
    (r : ∀ (h' : Heap) (a : Nat), @Eq Nat a h.size → h.size < h'.size → n0 ≤ a → Keep h h' [] → Exa Z h' a J → (∀ {O nm d : String} {ty : FieldType}, RoadKit.Laid Z a0 J O nm d → parseFieldDescriptor d = some ty → Fld Z h' a O nm d (defaultValue ty)) → WP l Z EL it n0 own h0 ws0 Q K h' (a :: ws) (cells + 1) (slots + n) (mkF K.m (pc + 3) Ls (.ref a :: st))) :
    WP l Z EL it n0 own h0 ws0 Q K h ws cells slots (mkF K.m pc Ls st) := by
  intro vm T locs P
  obtain ⟨T', h', X', e', E, A, D, -, s'⟩ := newO P.1 C.exec P.2.2.2.1 P.2.2.2.2.1 w wi wz P.2.1 (g := mkF K.m pc Ls st) rfl (hb C.bytes hd) (by rw [C.room]; exact hc) (by rw [C.room]; exact hl)
  exact Goes.of s' (r h' h.size rfl A.lt (P.2.2.2.2.2.2.2.2.1.1 ▸ P.2.2.2.2.2.2.2.2.1.2.1) (keep_ext E) A D vm T' locs (P.new X' e' E A.lt))
theorem Ok.putF (C : Ok l Z a0 EL it n0 own h0 ws0 Q code maxL ret nm rm K) {R0 O n d host J : String} {index kk : Nat} {ty : FieldType} {a : Nat} {v old : Value} (w : (Jvm.Cond.fieldLink own index R0 n d).before a0 Z = true ∨ (Jvm.Cond.fieldLinkNest own index R0 n d host).before a0 Z = true) (via : Via Z R0 O n d) (F : Fld Z h a O n d old) (E : Exa Z h a J)
    (L : (Jvm.Cond.lays J O n d).before a0 Z = true ∨ ((Jvm.Cond.laysFinal J O n d).before a0 Z = true ∧ own = O ∧ nm = "<init>")) (wi : (Jvm.Cond.instantiable J kk).before a0 Z = true) (hty : parseFieldDescriptor d = some ty) (hn : narrow ty v = v) (hf : fits ty v = true) (hd : decode code pc = .ok (.putfield index, 3)) (ha : a ∈ ws)
    (r : ∀ h' : Heap, h'.size = h.size → Keep h h' [a] → Exa Z h' a J → Fld Z h' a O n d v → (∀ {O' n' d' : String} {u : Value}, RoadKit.slotOf Z O' n' d' ≠ RoadKit.slotOf Z O n d → Fld Z h a O' n' d' u → Fld Z h' a O' n' d' u) → WP l Z EL it n0 own h0 ws0 Q K h' ws cells slots (mkF K.m (pc + 3) Ls st)) :
    WP l Z EL it n0 own h0 ws0 Q K h ws cells slots (mkF K.m pc Ls (v :: .ref a :: st)) := by
  intro vm T locs P
  obtain ⟨T', h', X', e', W, s'⟩ := RoadKit.putF P.1 C.exec P.2.2.2.1 P.2.2.2.2.1 w via P.2.1 F E (L.imp id fun q => ⟨q.1, q.2.1, C.named.trans q.2.2⟩) wi hty hn hf (g := mkF K.m pc Ls (v :: .ref a :: st)) rfl rfl (hb C.bytes hd)
  exact Goes.of s' (r h' W.size (Keep.of_wr W) (E.wr W) (F.same W) (fun q G => G.other W (Or.inr q)) vm T' _ (P.wr ha X' e' W))
/-- an array and all that it holds -/
def Ary (Z : State) (h : Heap) (a : Nat) (ty : FieldType) (vs : List Value) : Prop := ∃ c : Cell, RoadKit.Arr Z h a c ty ∧ c.slots.toList = vs ∧ vs.length < 2 ^ 31 ∧ ∀ v ∈ vs, fits ty v = true
theorem Ary.lt {a : Nat} {ty : FieldType} {vs : List Value} (A : Ary Z h a ty vs) : a < h.size := by obtain ⟨c, A, -⟩ := A; exact A.lt
theorem Ary.keep {h' : Heap} {a : Nat} {ty : FieldType} {vs : List Value} {us : List Addr} (A : Ary Z h a ty vs) (Kp : Keep h h' us) (q : a ∉ us) : Ary Z h' a ty vs := by
  obtain ⟨c, A, r⟩ := A; exact ⟨c, ⟨Kp.2.1 a c A.1 q, A.2⟩, r⟩
theorem Ary.len {a : Nat} {ty : FieldType} {vs : List Value} (A : Ary Z h a ty vs) : vs.length < 2 ^ 31 := by obtain ⟨c, -, -, r, -⟩ := A; exact r
theorem Ary.arv {a : Nat} {ty : FieldType} {vs : List Value} {n : Int32} {d : Value} (A : Ary Z h a ty vs) (hn : n.toInt = vs.length) : ∃ k, Arv Z h a k ty n vs d := by
  obtain ⟨c, A, r, q, f⟩ := A
  subst r
  have hz : c.slots.size = n.toNatClampNeg := by
    rw [← Int32.toNat_toInt, hn]; simp
  refine ⟨c.cls, c, A, rfl, hz, fun w => ?_, fun k hk => ?_, fun i hi => ?_⟩
  · rw [Int32.lt_iff_toInt_lt, hn] at w
    have : (0 : Int32).toInt = 0 := rfl
    omega
  · simp [hk]
  · have : c.slots.toList.getD i d = c.slots[i] := by simp [hi]
    rw [this]
    exact f _ (by simp)
theorem Ary.of_arv {a : Nat} {ty : FieldType} {vs : List Value} {n : Int32} {d : Value} {k : ClassId} (A : Arv Z h a k ty n vs d) (hn : n.toNatClampNeg = vs.length) : Ary Z h a ty vs := by
  obtain ⟨c, A, -, r2, r3, H, G⟩ := A
  have e : c.slots.toList = vs := by
    apply List.ext_getElem?
    intro i
    by_cases hi : i < c.slots.size
    · have q := H i hi
      rw [Array.getElem?_toList, q]
      have hi' : i < vs.length := by omega
      simp [hi']
    · rw [List.getElem?_eq_none (by simpa using hi), List.getElem?_eq_none (by omega)]
  refine ⟨c, A, e, ?_, fun v hv => ?_⟩
  · rw [← hn, ← Int32.toNat_toInt]
    have := n.toInt_lt
    omega
  · obtain ⟨i, hi, rfl⟩ := List.getElem_of_mem hv
    have := G i (by omega)
    simpa [hi] using this
theorem Ok.newarr (C : Ok l Z a0 EL it n0 own h0 ws0 Q code maxL ret nm rm K) {aty : ArrayType} {n : Int32} (k cap : Nat) (w : (Jvm.Cond.arrayClass (newarray.typeOf aty)).before a0 Z = true) (hd : decode code pc = .ok (.newarray aty, 2)) (hn : n.toInt = k) (hk' : k ≤ cap) (hb' : cap * 8 ≤ 536870912) (hc : cells + 1 ≤ rm.cells) (hl : slots + cap ≤ rm.slots)
    (r : ∀ (h' : Heap) (a : Nat), @Eq Nat a h.size → h.size < h'.size → n0 ≤ a → Keep h h' [] → Ary Z h' a (newarray.typeOf aty) (List.replicate k (defaultValue (newarray.typeOf aty))) → WP l Z EL it n0 own h0 ws0 Q K h' (a :: ws) (cells + 1) (slots + cap) (mkF K.m (pc + 2) Ls (.ref a :: st))) :
    WP l Z EL it n0 own h0 ws0 Q K h ws cells slots (mkF K.m pc Ls (.int n :: st)) := by
  intro vm T locs P
  have hk : n.toNatClampNeg = k := by rw [← Int32.toNat_toInt, hn]; simp
  obtain ⟨T', h', cA, X', e', E, A, s'⟩ := newP P.1 C.exec P.2.2.2.1 w P.2.1 (g := mkF K.m pc Ls (.int n :: st)) rfl (hb C.bytes hd) rfl (fun q => by rw [Int32.lt_iff_toInt_lt, hn] at q; have : (0 : Int32).toInt = 0 := rfl; omega) (cap := cap) (hk ▸ hk') hb' (by rw [C.room]; exact hc) (by rw [C.room]; exact hl)
  refine Goes.of s' (r h' h.size rfl A.lt (P.2.2.2.2.2.2.2.2.1.1 ▸ P.2.2.2.2.2.2.2.2.1.2.1) (keep_ext E) ⟨_, A, by simp [newA, hk], ?_, fun v hv => ?_⟩ vm T' locs (P.new X' e' E A.lt))
  · simp; omega
  · obtain ⟨-, rfl⟩ := List.mem_replicate.mp hv
    cases aty <;> rfl
theorem Ok.alen (C : Ok l Z a0 EL it n0 own h0 ws0 Q code maxL ret nm rm K) {a : Nat} {ty : FieldType} {vs : List Value} {n : Int32} (A : Ary Z h a ty vs) (hn : n.toInt = vs.length) (hd : decode code pc = .ok (.arraylength, 1)) (r : WP l Z EL it n0 own h0 ws0 Q K h ws cells slots (mkF K.m (pc + 1) Ls (.int n :: st))) : WP l Z EL it n0 own h0 ws0 Q K h ws cells slots (mkF K.m pc Ls (.ref a :: st)) := by
  intro vm T locs P
  obtain ⟨c, A, q, hl, -⟩ := A
  refine Goes.of (fun t k => P.1.arraylength C.exec (by rw [P.2.1]; exact A.1) (State.isArrayOf_alike P.2.2.2.1.alike A.2.1) (g := mkF K.m pc Ls (.ref a :: st)) rfl rfl (hb C.bytes hd) t ?_) (r vm T locs P)
  have e : c.slots.size.toInt32 = n := by
    apply Int32.toInt_inj.mp
    rw [hn, ← q]
    have : c.slots.size < 2 ^ 31 := by rw [← q] at hl; simpa using hl
    simpa using RoadKit.len_toInt this
  rw [e]; exact k
theorem idx_ok {j : Int32} {i n : Nat} (hj : j.toInt = i) (hi : i < n) : ¬ (j < 0 ∨ n ≤ j.toNatClampNeg) ∧ j.toNatClampNeg = i := by
  have e : j.toNatClampNeg = i := by rw [← Int32.toNat_toInt, hj]; simp
  refine ⟨fun q => ?_, e⟩
  rw [e, Int32.lt_iff_toInt_lt, hj] at q
  have : (0 : Int32).toInt = 0 := rfl
  omega
theorem Ok.caload (C : Ok l Z a0 EL it n0 own h0 ws0 Q code maxL ret nm rm K) {a : Addr} {vs : List Value} {j : Int32} {x : Int32} (i : Nat) (A : Ary Z h a .char vs) (hj : j.toInt = i) (hx : vs[i]? = some (.int x)) (hd : decode code pc = .ok (.caload, 1)) (r : WP l Z EL it n0 own h0 ws0 Q K h ws cells slots (mkF K.m (pc + 1) Ls (.int x :: st))) : WP l Z EL it n0 own h0 ws0 Q K h ws cells slots (mkF K.m pc Ls (.int j :: .ref a :: st)) := by
  intro vm T locs P
  obtain ⟨c, A, q, hl, f⟩ := A
  have hs : c.slots.size = vs.length := by rw [← q]; simp
  have hi : i < vs.length := (List.getElem?_eq_some_iff.mp hx).1
  obtain ⟨hin, hji⟩ := idx_ok hj (hs ▸ hi)
  exact Goes.of (fun t k => P.1.caload C.exec (by rw [P.2.1]; exact A.1) (State.isArrayOf_alike P.2.2.2.1.alike A.2.1) A.2.2 hin (v := .int x) (by rw [hji, ← Array.getElem?_toList, q]; exact hx) (g := mkF K.m pc Ls (.int j :: .ref a :: st)) rfl rfl (hb C.bytes hd) t k) (r vm T locs P)
theorem Ok.baload (C : Ok l Z a0 EL it n0 own h0 ws0 Q code maxL ret nm rm K) {a : Addr} {vs : List Value} {j : Int32} {x : Int32} (i : Nat) (A : Ary Z h a .byte vs) (hj : j.toInt = i) (hx : vs[i]? = some (.int x)) (hd : decode code pc = .ok (.baload, 1)) (r : WP l Z EL it n0 own h0 ws0 Q K h ws cells slots (mkF K.m (pc + 1) Ls (.int x :: st))) : WP l Z EL it n0 own h0 ws0 Q K h ws cells slots (mkF K.m pc Ls (.int j :: .ref a :: st)) := by
  intro vm T locs P
  obtain ⟨c, A, q, hl, f⟩ := A
  have hs : c.slots.size = vs.length := by rw [← q]; simp
  have hi : i < vs.length := (List.getElem?_eq_some_iff.mp hx).1
  obtain ⟨hin, hji⟩ := idx_ok hj (hs ▸ hi)
  exact Goes.of (fun t k => P.1.baloadBytes C.exec (by rw [P.2.1]; exact A.1) (State.isArrayOf_alike P.2.2.2.1.alike A.2.1) A.2.2 hin (v := .int x) (by rw [hji, ← Array.getElem?_toList, q]; exact hx) (g := mkF K.m pc Ls (.int j :: .ref a :: st)) rfl rfl (hb C.bytes hd) t k) (r vm T locs P)
theorem Ok.laload (C : Ok l Z a0 EL it n0 own h0 ws0 Q code maxL ret nm rm K) {a : Addr} {vs : List Value} {j : Int32} {x : Int64} (i : Nat) (A : Ary Z h a .long vs) (hj : j.toInt = i) (hx : vs[i]? = some (.long x)) (hd : decode code pc = .ok (.laload, 1)) (r : WP l Z EL it n0 own h0 ws0 Q K h ws cells slots (mkF K.m (pc + 1) Ls (.long x :: st))) : WP l Z EL it n0 own h0 ws0 Q K h ws cells slots (mkF K.m pc Ls (.int j :: .ref a :: st)) := by
  intro vm T locs P
  obtain ⟨c, A, q, hl, f⟩ := A
  have hs : c.slots.size = vs.length := by rw [← q]; simp
  have hi : i < vs.length := (List.getElem?_eq_some_iff.mp hx).1
  obtain ⟨hin, hji⟩ := idx_ok hj (hs ▸ hi)
  exact Goes.of (fun t k => P.1.laload C.exec (by rw [P.2.1]; exact A.1) (State.isArrayOf_alike P.2.2.2.1.alike A.2.1) A.2.2 hin (v := .long x) (by rw [hji, ← Array.getElem?_toList, q]; exact hx) (g := mkF K.m pc Ls (.int j :: .ref a :: st)) rfl rfl (hb C.bytes hd) t k) (r vm T locs P)
theorem Ary.set {a : Nat} {ty : FieldType} {vs : List Value} {c : Cell} {h' : Heap} {i : Nat} {v : Value} (A : RoadKit.Arr Z h a c ty) (q : c.slots.toList = vs) (hl : vs.length < 2 ^ 31) (f : ∀ v ∈ vs, fits ty v = true) (hv : fits ty v = true) (W : Wr h h' a i v) : Ary Z h' a ty (vs.set i v) := by
  refine ⟨_, A.same W, ?_, by simpa using hl, fun u hu => ?_⟩
  · simp [Cell.setSlot, q]
  · rcases List.mem_or_eq_of_mem_set hu with hu | rfl
    · exact f u hu
    · exact hv
theorem nar_char {x : Int32} (h0 : 0 ≤ x.toInt) (h1 : x.toInt < 65536) : nar .char x = x := by
  apply Int32.toInt_inj.mp
  have q := c_i2c x
  show x.toUInt32.toUInt16.toUInt32.toInt32.toInt = _
  omega
theorem i2c_id {x : Int32} (h0 : 0 ≤ x.toInt) (h1 : x.toInt < 65536) : x.toUInt32.toUInt16.toUInt32.toInt32 = x := nar_char h0 h1
theorem Ok.castore (C : Ok l Z a0 EL it n0 own h0 ws0 Q code maxL ret nm rm K) {a : Nat} {vs : List Value} {j x : Int32} (i : Nat) (A : Ary Z h a .char vs) (hj : j.toInt = i) (hi : i < vs.length) (x0 : 0 ≤ x.toInt) (x1 : x.toInt < 65536) (hd : decode code pc = .ok (.castore, 1)) (ha : a ∈ ws)
    (r : ∀ h' : Heap, h'.size = h.size → Keep h h' [a] → Ary Z h' a .char (vs.set i (.int x)) → WP l Z EL it n0 own h0 ws0 Q K h' ws cells slots (mkF K.m (pc + 1) Ls st)) : WP l Z EL it n0 own h0 ws0 Q K h ws cells slots (mkF K.m pc Ls (.int x :: .int j :: .ref a :: st)) := by
  intro vm T locs P
  obtain ⟨c, A, q, hl, f⟩ := A
  have hs : c.slots.size = vs.length := by rw [← q]; simp
  obtain ⟨hin, hji⟩ := idx_ok hj (hs ▸ hi)
  obtain ⟨T', h', X', e', W, s'⟩ := stC P.1 C.exec P.2.2.2.1 P.2.1 A hin (g := mkF K.m pc Ls (.int x :: .int j :: .ref a :: st)) rfl rfl (hb C.bytes hd)
  have W' := W
  rw [hji, nar_char x0 x1] at W
  exact Goes.of s' (r h' W'.size (Keep.of_wr W') (Ary.set A q hl f (by have := fits_nar_char x; rwa [nar_char x0 x1] at this) W) vm T' _ (P.wr ha X' e' W'))
theorem Ok.bastore (C : Ok l Z a0 EL it n0 own h0 ws0 Q code maxL ret nm rm K) {a : Nat} {vs : List Value} {j x : Int32} (i : Nat) (A : Ary Z h a .byte vs) (hj : j.toInt = i) (hi : i < vs.length) (hd : decode code pc = .ok (.bastore, 1)) (ha : a ∈ ws)
    (r : ∀ h' : Heap, h'.size = h.size → Keep h h' [a] → Ary Z h' a .byte (vs.set i (.int x.toInt8.toInt32)) → WP l Z EL it n0 own h0 ws0 Q K h' ws cells slots (mkF K.m (pc + 1) Ls st)) : WP l Z EL it n0 own h0 ws0 Q K h ws cells slots (mkF K.m pc Ls (.int x :: .int j :: .ref a :: st)) := by
  intro vm T locs P
  obtain ⟨c, A, q, hl, f⟩ := A
  have hs : c.slots.size = vs.length := by rw [← q]; simp
  obtain ⟨hin, hji⟩ := idx_ok hj (hs ▸ hi)
  obtain ⟨T', h', X', e', W, s'⟩ := stB P.1 C.exec P.2.2.2.1 P.2.1 A hin (g := mkF K.m pc Ls (.int x :: .int j :: .ref a :: st)) rfl rfl (hb C.bytes hd)
  have W' := W
  rw [hji] at W
  exact Goes.of s' (r h' W'.size (Keep.of_wr W') (Ary.set A q hl f (fits_nar_byte x) W) vm T' _ (P.wr ha X' e' W'))
theorem Ok.lastore (C : Ok l Z a0 EL it n0 own h0 ws0 Q code maxL ret nm rm K) {a : Nat} {vs : List Value} {j : Int32} {x : Int64} (i : Nat) (A : Ary Z h a .long vs) (hj : j.toInt = i) (hi : i < vs.length) (hd : decode code pc = .ok (.lastore, 1)) (ha : a ∈ ws)
    (r : ∀ h' : Heap, h'.size = h.size → Keep h h' [a] → Ary Z h' a .long (vs.set i (.long x)) → WP l Z EL it n0 own h0 ws0 Q K h' ws cells slots (mkF K.m (pc + 1) Ls st)) : WP l Z EL it n0 own h0 ws0 Q K h ws cells slots (mkF K.m pc Ls (.long x :: .int j :: .ref a :: st)) := by
  intro vm T locs P
  obtain ⟨c, A, q, hl, f⟩ := A
  have hs : c.slots.size = vs.length := by rw [← q]; simp
  obtain ⟨hin, hji⟩ := idx_ok hj (hs ▸ hi)
  obtain ⟨T', h', X', e', W, s'⟩ := stJ P.1 C.exec P.2.2.2.1 P.2.1 A hin (g := mkF K.m pc Ls (.long x :: .int j :: .ref a :: st)) rfl rfl (hb C.bytes hd)
  have W' := W
  rw [hji] at W
  exact Goes.of s' (r h' W'.size (Keep.of_wr W') (Ary.set A q hl f rfl W) vm T' _ (P.wr ha X' e' W'))
/-! ends -/
theorem endMore {s t : State} {o : Outcome} {L : List Loc} {k n k' n' : Nat} (R : ReturnedEndW s o t L k n) (hk : k ≤ k') (hn : n ≤ n') : ReturnedEndW s o t L k' n' := ⟨R.1, R.2.1, R.2.2.1, R.2.2.2.mono hk hn⟩
theorem Ok.leave (C : Ok l Z a0 EL it n0 own h0 ws0 Q code maxL ret nm rm K) {v : Option Value} (hv : ret = none → v = none) (hq : Q v h) (hc : cells ≤ rm.cells) (hl : slots ≤ rm.slots)
    (go : ∀ (T : State) (vm : Vm) (locs : List Loc) (fs : List Frame), Stand K.p l K.e K.R (K.s.setVm vm) K.m K.args K.below K.meth K.c T locs cells slots → (∀ (f : JFrame) (acts : List Action), f.method = K.m → f.locked = none → f.entered = [] → (doReturn K.e (T.setTop f) acts v).1 = T.setFrames fs) → Steps K.p.tables K.e K.below (T.setTop g) (T.setFrames fs)) :
    WP l Z EL it n0 own h0 ws0 Q K h ws cells slots g := by
  intro vm T locs P
  obtain ⟨X, eT, ⟨k, hS, hk⟩, hZ, hown, H, N, Kp, O, Ow⟩ := P
  obtain ⟨fs, hr, h1, h2, hR⟩ := X.leaveW hS (by rw [eT]; exact hk) (v := v) (fun q => hv (C.rets.symm.trans q)) C.unlocked
  have eh : (T.setFrames fs).heap = h := eT
  refine ⟨_, _, go T vm locs fs X hr, h1, h2, v, locs, rfl, ⟨by rw [eh]; exact hq, by rw [eh]; exact Kp, N⟩, ?_, endMore hR (by rw [C.room]; exact hc) (by rw [C.room]; exact hl)⟩
  rw [eh]
  show CHx it Z EL K.s.vm h0 T.vm h
  exact H.trans (CHx.still (CHv.at X hZ C.ew H.1) (Wm.of (s0 := K.s.setVm vm) X.warmed))
theorem Ok.return_ (C : Ok l Z a0 EL it n0 own h0 ws0 Q code maxL ret nm rm K) (hr : ret = none) (hd : decode code pc = .ok (.return_, 1)) (hc : cells ≤ rm.cells) (hl : slots ≤ rm.slots) (hq : Q none h) : WP l Z EL it n0 own h0 ws0 Q K h ws cells slots (mkF K.m pc Ls []) :=
  C.leave (v := none) (fun _ => rfl) hq hc hl fun T vm locs fs X hl => X.returnOut C.exec (C.rets.trans hr) (hb C.bytes hd) hl
theorem Ok.ireturn (C : Ok l Z a0 EL it n0 own h0 ws0 Q code maxL ret nm rm K) {t : FieldType} {z : Int32} (hr : ret = some t) (ht : t = .int ∨ t = .boolean ∨ t = .byte ∨ t = .char ∨ t = .short) (hn : narrow t (.int z) = .int z) (hd : decode code pc = .ok (.ireturn, 1)) (hc : cells ≤ rm.cells) (hl : slots ≤ rm.slots) (hq : Q (some (.int z)) h) : WP l Z EL it n0 own h0 ws0 Q K h ws cells slots (mkF K.m pc Ls (.int z :: st)) :=
  C.leave (v := some (.int z)) (fun q => by rw [hr] at q; cases q) hq hc hl fun T vm locs fs X hl => retOut X C.exec (C.rets.trans hr) hn (Or.inl ⟨rfl, ht, z, rfl⟩) (hb C.bytes hd) hl
theorem Ok.areturn (C : Ok l Z a0 EL it n0 own h0 ws0 Q code maxL ret nm rm K) {t : FieldType} {v : Value} (hr : ret = some t) (ht : t.isReference = true) (hv : v.isRef = true) (hd : decode code pc = .ok (.areturn, 1)) (hc : cells ≤ rm.cells) (hl : slots ≤ rm.slots) (hq : Q (some v) h) : WP l Z EL it n0 own h0 ws0 Q K h ws cells slots (mkF K.m pc Ls (v :: st)) :=
  C.leave (v := some v) (fun q => by rw [hr] at q; cases q) hq hc hl fun T vm locs fs X hl => retOut X C.exec (C.rets.trans hr) (by rcases ref_cases hv with rfl | ⟨a, rfl⟩ <;> cases t <;> first | rfl | cases ht) (Or.inr (Or.inr (Or.inr (Or.inr ⟨rfl, ht, hv⟩)))) (hb C.bytes hd) hl
theorem Ok.lreturn (C : Ok l Z a0 EL it n0 own h0 ws0 Q code maxL ret nm rm K) {z : Int64} (hr : ret = some .long) (hd : decode code pc = .ok (.lreturn, 1)) (hc : cells ≤ rm.cells) (hl : slots ≤ rm.slots) (hq : Q (some (.long z)) h) : WP l Z EL it n0 own h0 ws0 Q K h ws cells slots (mkF K.m pc Ls (.long z :: st)) :=
  C.leave (v := some (.long z)) (fun q => by rw [hr] at q; cases q) hq hc hl fun T vm locs fs X hl => retOut X C.exec (C.rets.trans hr) rfl (Or.inr (Or.inl ⟨rfl, rfl, z, rfl⟩)) (hb C.bytes hd) hl
end Rules
end Own
end Jvm.Pilot.@@N@@
namespace Jvm.Pilot.@@N@@
namespace Own
open Jvm Jvm.ClassFile Sem Op Lib Jvm.Free Jvm.Stand Jvm.LawKit Jvm.RoadKit Bundle
section Calls
variable {l : Launch} {Z : State} {a0 : Array Value} {EL : List (String × Nat)} {it : Prop} {n0 : Nat} {own : String} {h0 : Heap} {ws0 : List Addr} {Q : Option Value → Heap → Prop} {code : ByteArray} {maxL : Nat} {ret : Option FieldType} {nm : String} {rm : Room} {K : Ctx} {h : Heap} {ws : List Addr} {cells slots pc : Nat} {Ls : Array Slot} {st stk : List Value} {g g' : JFrame}
theorem Ok.topI (C : Ok l Z a0 EL it n0 own h0 ws0 Q code maxL ret nm rm K) {x y : Int32} (e : x = y) (r : WP l Z EL it n0 own h0 ws0 Q K h ws cells slots (mkF K.m pc Ls (.int y :: st))) : WP l Z EL it n0 own h0 ws0 Q K h ws cells slots (mkF K.m pc Ls (.int x :: st)) := by subst e; exact r
theorem Ok.topJ (C : Ok l Z a0 EL it n0 own h0 ws0 Q code maxL ret nm rm K) {x y : Int64} (e : x = y) (r : WP l Z EL it n0 own h0 ws0 Q K h ws cells slots (mkF K.m pc Ls (.long y :: st))) : WP l Z EL it n0 own h0 ws0 Q K h ws cells slots (mkF K.m pc Ls (.long x :: st)) := by subst e; exact r
theorem Ok.more (C : Ok l Z a0 EL it n0 own h0 ws0 Q code maxL ret nm rm K) {cells' slots' : Nat} (h1 : cells ≤ cells') (h2 : slots ≤ slots') (r : WP l Z EL it n0 own h0 ws0 Q K h ws cells' slots' g) : WP l Z EL it n0 own h0 ws0 Q K h ws cells slots g :=
  fun vm T locs P => r vm T locs ⟨P.1.more h1 h2, P.2⟩
theorem Ok.sub (C : Ok l Z a0 EL it n0 own h0 ws0 Q code maxL ret nm rm K) {ws' : List Addr} (hs : ∀ x ∈ ws', x ∈ ws) (r : WP l Z EL it n0 own h0 ws0 Q K h ws' cells slots g) : WP l Z EL it n0 own h0 ws0 Q K h ws cells slots g :=
  fun vm T locs P => r vm T locs ⟨P.1, P.2.1, P.2.2.1, P.2.2.2.1, P.2.2.2.2.1, P.2.2.2.2.2.1, P.2.2.2.2.2.2.1, P.2.2.2.2.2.2.2.1, P.2.2.2.2.2.2.2.2.1, fun x hx => P.2.2.2.2.2.2.2.2.2 x (hs x hx)⟩
theorem Ok.aaloadB (C : Ok l Z a0 EL it n0 own h0 ws0 Q code maxL ret nm rm K) {a : Nat} {c : Cell} {KK d : String} {z : Int32} {val : Int32 → Value} {j : Int32} (F : Bxs Z a c KK d z val) (j0 : 0 ≤ j.toInt) (j1 : j.toInt < z.toInt) (hd : decode code pc = .ok (.aaload, 1))
    (r : ∀ b : Nat, Exa Z h b KK → Fld Z h b KK "value" d (val j) → WP l Z EL it n0 own h0 ws0 Q K h ws cells slots (mkF K.m (pc + 1) Ls (.ref b :: st))) : WP l Z EL it n0 own h0 ws0 Q K h ws cells slots (mkF K.m pc Ls (.int j :: .ref a :: st)) := by
  intro vm T locs P
  have E := P.2.2.2.2.2.2.2.2.1.2
  obtain ⟨A, hs, hz, f⟩ := F
  have A' := A.ext E
  have k0 : (0 : Int32).toInt = 0 := rfl
  have hin : ¬ (j < 0 ∨ c.slots.size ≤ j.toNatClampNeg) := by
    rintro (q | q)
    · have := Int32.lt_iff_toInt_lt.mp q; omega
    · rw [hs] at q
      simp only [Int32.toNatClampNeg] at q
      omega
  obtain ⟨b, hb1, Eb, Fb⟩ := f j hin
  exact Goes.of (fun t k => P.1.aaload C.exec (by rw [P.2.1]; exact A'.1) (State.isArrayOf_alike P.2.2.2.1.alike A'.2.1) rfl A'.2.2 hin (v := .ref b) hb1 (g := mkF K.m pc Ls (.int j :: .ref a :: st)) rfl rfl (hb C.bytes hd) t k) (r b (Eb.ext E) (Fb.ext E) vm T locs P)
theorem Pos.call {it' : Prop} (hi : it' → it) {vm : Vm} {T U : State} {locs L : List Loc} {ws' : List Addr} {cells' slots' : Nat} (P : Pos l Z EL it n0 own h0 ws0 K h ws cells slots vm T locs) (hsub : ∀ x ∈ ws', x ∈ ws) (X' : Stand K.p l K.e K.R ((K.s.setVm vm).setVm U.vm) K.m K.args K.below K.meth K.c U (locs ++ L) cells' slots')
    (hS' : (K.s.setVm vm).Since U.vm U.heap.size) (hkp : Keep h U.heap ws') (hN : Fr n0 L) (hC : CHx it' Z EL vm h U.vm U.heap) : Pos l Z EL it n0 own h0 ws0 K U.heap ws cells' slots' U.vm U (locs ++ L) := by
  obtain ⟨X, eT, ⟨k, hS, hk⟩, hZ, hown, H, N, Kp, O, Ow⟩ := P
  obtain ⟨y1, y2, y3, y4⟩ := rebS hS hk X' hS' hkp.1 hZ hown
  exact ⟨y1, rfl, ⟨_, y2, Nat.le_refl _⟩, y3, y4, H.trans (hC.mono hi), N.app hN, Kp.trans hkp (fun x hx => (Ow x (hsub x hx)).2.2.2), O.keep hkp (fun x hx => (Ow x (hsub x hx)).1),
    fun x hx => ⟨(Ow x hx).1, Nat.lt_of_lt_of_le (Ow x hx).2.1 hkp.1, hC.safe (Ow x hx).2.1 (Ow x hx).2.2.1, (Ow x hx).2.2.2⟩⟩
theorem Ok.callS (C : Ok l Z a0 EL it n0 own h0 ws0 Q code maxL ret nm rm K) {it' : Prop} {y : MethodName} {index : Nat} {bytes' : ByteArray} {maxL' : Nat} {ret' : Option FieldType} {fr lo cl sl : Nat} {ws' : List Addr} {Q' : Option Value → Heap → Prop} {ps : List FieldType} {rt : Option FieldType} (as : List Value) (st : List Value) (W : Nat)
    (w1 : (Jvm.Cond.methodLink own index y).before a0 Z = true) (w2 : (Jvm.Cond.static y).before a0 Z = true) (w3 : (Jvm.Cond.initialized y.cls).before a0 Z = true) (w4 : (Jvm.Cond.code y bytes' maxL' ret').before a0 Z = true) (hy : y.cls ≠ "java/lang/invoke/MethodHandle" ∧ y.cls ≠ "java/lang/invoke/VarHandle")
    (pd : parseMethodDescriptor y.desc = some ⟨ps, rt⟩) (hlen : as.length = ps.length) (hi : it' → it) (M : Con l Z a0 EL it' n0 y fr lo cl sl as.toArray h ws' Q') (hd : decode code pc = .ok (.invokestatic index, 3)) (hLs : Ls.size = maxL) (hst : stk = as.reverse ++ st) (hW : (st.map fun v => v.category).sum = W)
    (hfr : fr ≤ rm.frames) (hlo : W + lo ≤ rm.locals) (hc : cells + cl ≤ rm.cells) (hs : slots + sl ≤ rm.slots) (hsub : ∀ x ∈ ws', x ∈ ws)
    (r : ∀ (v : Option Value) (h' : Heap), h.size ≤ h'.size → Keep h h' ws' → Q' v h' → WP l Z EL it n0 own h0 ws0 Q K h' ws (cells + cl) (slots + sl) (mkF K.m (pc + 3) Ls (v.toList ++ st))) : WP l Z EL it n0 own h0 ws0 Q K h ws cells slots (mkF K.m pc Ls stk) := by
  intro vm T locs P
  have P0 := P
  obtain ⟨X, eT, ⟨k, hS, hk⟩, hZ, hown, H, N, Kp, O, Ow⟩ := P
  have B := M K.R K.p K.e K.below K.s K.args 3 W vm hZ C.ew H.1 O (fun x hx => ⟨(Ow x (hsub x hx)).1, (Ow x (hsub x hx)).2.1, (Ow x (hsub x hx)).2.2.1⟩) (by rw [C.room]; exact hfr) (by rw [C.room]; exact hlo)
  obtain ⟨v, vm₁, ⟨U, locs', cells', slots'⟩, -, X', hS', hgr, ⟨L, ⟨hq, hkp, hN⟩, e1, e2, e3, hC⟩, hgo⟩ := callSS X C.exec hown (mv hZ w1) (mv hZ w2) (mv hZ w3) (mv hZ w4) hy B (g := mkF K.m pc Ls stk) rfl (hLs.trans C.maxl.symm) (rest := st) (lenOf pd hlen) hst (by rw [hW]; exact Nat.le_of_eq (Nat.zero_add _)) (hb C.bytes hd) (fun vm₁ _ => ⟨rfl, eT, by rw [C.room]; exact hc, by rw [C.room]; exact hs⟩)
  dsimp only [Pt.U, Pt.locs, Pt.cells, Pt.slots] at X' hS' hgr hq hkp e1 e2 e3 hC hgo
  subst e1 e2 e3
  exact Goes.of (fun t k => hgo.trans k) (r v U.heap hkp.1 hkp hq U.vm U _ (P0.call hi hsub X' hS' hkp hN hC))
/-- a call of a static method that interns nothing; what it has made may be written from here on -/
theorem Ok.callSo (C : Ok l Z a0 EL it n0 own h0 ws0 Q code maxL ret nm rm K) {y : MethodName} {index : Nat} {bytes' : ByteArray} {maxL' : Nat} {ret' : Option FieldType} {fr lo cl sl : Nat} {ws' : List Addr} {Q' : Option Value → Heap → Prop} {ps : List FieldType} {rt : Option FieldType} (as : List Value) (st : List Value) (W : Nat)
    (w1 : (Jvm.Cond.methodLink own index y).before a0 Z = true) (w2 : (Jvm.Cond.static y).before a0 Z = true) (w3 : (Jvm.Cond.initialized y.cls).before a0 Z = true) (w4 : (Jvm.Cond.code y bytes' maxL' ret').before a0 Z = true) (hy : y.cls ≠ "java/lang/invoke/MethodHandle" ∧ y.cls ≠ "java/lang/invoke/VarHandle")
    (pd : parseMethodDescriptor y.desc = some ⟨ps, rt⟩) (hlen : as.length = ps.length) (M : Con l Z a0 EL False n0 y fr lo cl sl as.toArray h ws' Q') (hd : decode code pc = .ok (.invokestatic index, 3)) (hLs : Ls.size = maxL) (hst : stk = as.reverse ++ st) (hW : (st.map fun v => v.category).sum = W)
    (hfr : fr ≤ rm.frames) (hlo : W + lo ≤ rm.locals) (hc : cells + cl ≤ rm.cells) (hs : slots + sl ≤ rm.slots) (hsub : ∀ x ∈ ws', x ∈ ws)
    (r : ∀ (v : Option Value) (h' : Heap), h.size ≤ h'.size → Keep h h' ws' → Q' v h' → ∃ os : List Addr, (∀ x ∈ os, h.size ≤ x ∧ x < h'.size) ∧ WP l Z EL it n0 own h0 ws0 Q K h' (os ++ ws) (cells + cl) (slots + sl) (mkF K.m (pc + 3) Ls (v.toList ++ st))) : WP l Z EL it n0 own h0 ws0 Q K h ws cells slots (mkF K.m pc Ls stk) := by
  intro vm T locs P
  have P0 := P
  obtain ⟨X, eT, ⟨k, hS, hk⟩, hZ, hown, H, N, Kp, O, Ow⟩ := P
  have B := M K.R K.p K.e K.below K.s K.args 3 W vm hZ C.ew H.1 O (fun x hx => ⟨(Ow x (hsub x hx)).1, (Ow x (hsub x hx)).2.1, (Ow x (hsub x hx)).2.2.1⟩) (by rw [C.room]; exact hfr) (by rw [C.room]; exact hlo)
  obtain ⟨v, vm₁, ⟨U, locs', cells', slots'⟩, -, X', hS', hgr, ⟨L, ⟨hq, hkp, hN⟩, e1, e2, e3, hC⟩, hgo⟩ := callSS X C.exec hown (mv hZ w1) (mv hZ w2) (mv hZ w3) (mv hZ w4) hy B (g := mkF K.m pc Ls stk) rfl (hLs.trans C.maxl.symm) (rest := st) (lenOf pd hlen) hst (by rw [hW]; exact Nat.le_of_eq (Nat.zero_add _)) (hb C.bytes hd) (fun vm₁ _ => ⟨rfl, eT, by rw [C.room]; exact hc, by rw [C.room]; exact hs⟩)
  dsimp only [Pt.U, Pt.locs, Pt.cells, Pt.slots] at X' hS' hgr hq hkp e1 e2 e3 hC hgo
  subst e1 e2 e3
  obtain ⟨os, hos, r⟩ := r v U.heap hkp.1 hkp hq
  have P1 := P0.call (it' := False) False.elim hsub X' hS' hkp hN hC
  refine Goes.of (fun t k => hgo.trans k) (r U.vm U _ ⟨P1.1, P1.2.1, P1.2.2.1, P1.2.2.2.1, P1.2.2.2.2.1, P1.2.2.2.2.2.1, P1.2.2.2.2.2.2.1, P1.2.2.2.2.2.2.2.1, P1.2.2.2.2.2.2.2.2.1, fun x hx => ?_⟩)
  rcases List.mem_append.mp hx with hx | hx
  · obtain ⟨g1, g2⟩ := hos x hx
    refine ⟨Nat.le_trans (O.1 ▸ O.2.1) g1, g2, fun q => ?_, Or.inr (Nat.le_trans Kp.1 g1)⟩
    rcases hC.2.2.1 x q with q | q
    · obtain ⟨c, hc⟩ := q.there
      exact absurd (Array.getElem?_eq_some_iff.mp hc).1 (Nat.not_lt.mpr g1)
    · exact q.1
  · exact P1.2.2.2.2.2.2.2.2.2 x hx
theorem Ok.callN (C : Ok l Z a0 EL it n0 own h0 ws0 Q code maxL ret nm rm K) {it' : Prop} {y : MethodName} {index : Nat} {bytes' : ByteArray} {maxL' : Nat} {fr lo cl sl : Nat} {ws' : List Addr} {Q' : Option Value → Heap → Prop} {ps : List FieldType} {rt : Option FieldType} (a : Nat) (as : List Value) (st : List Value) (W : Nat)
    (w1 : (Jvm.Cond.methodLink own index y).before a0 Z = true) (w2 : (Jvm.Cond.instanceMethod y).before a0 Z = true) (w4 : (Jvm.Cond.code y bytes' maxL' none).before a0 Z = true) (hy1 : y.name = "<init>") (hy : y.cls ≠ "java/lang/invoke/MethodHandle" ∧ y.cls ≠ "java/lang/invoke/VarHandle")
    (pd : parseMethodDescriptor y.desc = some ⟨ps, rt⟩) (hlen : as.length = ps.length) (hi : it' → it) (M : Con l Z a0 EL it' n0 y fr lo cl sl (Value.ref a :: as).toArray h ws' Q') (hd : decode code pc = .ok (.invokespecial index, 3)) (hLs : Ls.size = maxL) (hst : stk = as.reverse ++ .ref a :: st) (hW : (st.map fun v => v.category).sum = W)
    (hfr : fr ≤ rm.frames) (hlo : W + lo ≤ rm.locals) (hc : cells + cl ≤ rm.cells) (hs : slots + sl ≤ rm.slots) (hsub : ∀ x ∈ ws', x ∈ ws)
    (r : ∀ (v : Option Value) (h' : Heap), h.size ≤ h'.size → Keep h h' ws' → Q' v h' → WP l Z EL it n0 own h0 ws0 Q K h' ws (cells + cl) (slots + sl) (mkF K.m (pc + 3) Ls (v.toList ++ st))) : WP l Z EL it n0 own h0 ws0 Q K h ws cells slots (mkF K.m pc Ls stk) := by
  intro vm T locs P
  have P0 := P
  obtain ⟨X, eT, ⟨k, hS, hk⟩, hZ, hown, H, N, Kp, O, Ow⟩ := P
  have B := M K.R K.p K.e K.below K.s K.args 3 W vm hZ C.ew H.1 O (fun x hx => ⟨(Ow x (hsub x hx)).1, (Ow x (hsub x hx)).2.1, (Ow x (hsub x hx)).2.2.1⟩) (by rw [C.room]; exact hfr) (by rw [C.room]; exact hlo)
  obtain ⟨v, vm₁, ⟨U, locs', cells', slots'⟩, -, X', hS', hgr, ⟨L, ⟨hq, hkp, hN⟩, e1, e2, e3, hC⟩, hgo⟩ := X.specialBackS C.exec hy1 hown (mv hZ w1) (mv hZ w2) (mv hZ w4) hy B (g := mkF K.m pc Ls stk) rfl (hLs.trans C.maxl.symm) (Steps.refl _) (a := a) (rest := st) (lenOf pd hlen) hst (by rw [hW]; exact Nat.le_of_eq (Nat.zero_add _)) (hb C.bytes hd) (fun vm₁ _ => ⟨rfl, eT, by rw [C.room]; exact hc, by rw [C.room]; exact hs⟩)
  dsimp only [Pt.U, Pt.locs, Pt.cells, Pt.slots] at X' hS' hgr hq hkp e1 e2 e3 hC hgo
  subst e1 e2 e3
  exact Goes.of (fun t k => hgo.trans k) (r v U.heap hkp.1 hkp hq U.vm U _ (P0.call hi hsub X' hS' hkp hN hC))
theorem Ok.callV (C : Ok l Z a0 EL it n0 own h0 ws0 Q code maxL ret nm rm K) {it' : Prop} {y : MethodName} {J : String} {index : Nat} {fr lo cl sl : Nat} {ws' : List Addr} {Q' : Option Value → Heap → Prop} {ps : List FieldType} {rt : Option FieldType} (b : Nat) (as : List Value) (st : List Value) (W : Nat)
    (w1 : (Jvm.Cond.methodLink own index y).before a0 Z = true) (w2 : (Jvm.Cond.declares y).before a0 Z = true) (w3 : (Jvm.Cond.selects J y y).before a0 Z = true) (w4 : (Jvm.Cond.instanceMethod y).before a0 Z = true) (hy : y.cls ≠ "java/lang/invoke/MethodHandle" ∧ y.cls ≠ "java/lang/invoke/VarHandle") (hyJ : y.cls = J)
    (E : Exa Z h b J) (pd : parseMethodDescriptor y.desc = some ⟨ps, rt⟩) (hlen : as.length = ps.length) (hi : it' → it) (M : Con l Z a0 EL it' n0 y fr lo cl sl (Value.ref b :: as).toArray h ws' Q') (hd : decode code pc = .ok (.invokevirtual index, 3)) (hLs : Ls.size = maxL) (hst : stk = as.reverse ++ .ref b :: st) (hW : (st.map fun v => v.category).sum = W)
    (hfr : fr ≤ rm.frames) (hlo : W + lo ≤ rm.locals) (hc : cells + cl ≤ rm.cells) (hs : slots + sl ≤ rm.slots) (hsub : ∀ x ∈ ws', x ∈ ws)
    (r : ∀ (v : Option Value) (h' : Heap), h.size ≤ h'.size → Keep h h' ws' → Q' v h' → WP l Z EL it n0 own h0 ws0 Q K h' ws (cells + cl) (slots + sl) (mkF K.m (pc + 3) Ls (v.toList ++ st))) : WP l Z EL it n0 own h0 ws0 Q K h ws cells slots (mkF K.m pc Ls stk) := by
  intro vm T locs P
  have P0 := P
  obtain ⟨X, eT, ⟨k, hS, hk⟩, hZ, hown, H, N, Kp, O, Ow⟩ := P
  have B := M K.R K.p K.e K.below K.s K.args 3 W vm hZ C.ew H.1 O (fun x hx => ⟨(Ow x (hsub x hx)).1, (Ow x (hsub x hx)).2.1, (Ow x (hsub x hx)).2.2.1⟩) (by rw [C.room]; exact hfr) (by rw [C.room]; exact hlo)
  obtain ⟨cB, kB, q1, -, q3⟩ := isOf (s := K.s.setVm vm) hZ eT E
  subst hyJ
  obtain ⟨v, vm₁, ⟨U, locs', cells', slots'⟩, -, X', hS', hgr, ⟨L, ⟨hq, hkp, hN⟩, e1, e2, e3, hC⟩, hgo⟩ := X.virtualBackS C.exec (y := y) (z := y) hown (mv hZ w1) (mv hZ w2) (notFace_of_selects (args := #[]) (mv hZ w3)) (mv hZ w3) (mv hZ w4) hy B q1 q3 (g := mkF K.m pc Ls stk) rfl (hLs.trans C.maxl.symm) (Steps.refl _) (argsL := as) (rest := st) (lenOf pd hlen) hst (by rw [hW]; exact Nat.le_of_eq (Nat.zero_add _)) (hb C.bytes hd) (fun vm₁ _ => ⟨rfl, eT, by rw [C.room]; exact hc, by rw [C.room]; exact hs⟩)
  dsimp only [Pt.U, Pt.locs, Pt.cells, Pt.slots] at X' hS' hgr hq hkp e1 e2 e3 hC hgo
  subst e1 e2 e3
  exact Goes.of (fun t k => hgo.trans k) (r v U.heap hkp.1 hkp hq U.vm U _ (P0.call hi hsub X' hS' hkp hN hC))
theorem Ok.callI (C : Ok l Z a0 EL it n0 own h0 ws0 Q code maxL ret nm rm K) {it' : Prop} {x y : MethodName} {J : String} {index count : Nat} {fr lo cl sl : Nat} {ws' : List Addr} {Q' : Option Value → Heap → Prop} {ps : List FieldType} {rt : Option FieldType} (b : Nat) (as : List Value) (st : List Value) (W : Nat)
    (w1 : (Jvm.Cond.methodLink own index x).before a0 Z = true) (w2 : (Jvm.Cond.declares x).before a0 Z = true) (hk' : ((Jvm.Cond.interfaceMethod x.cls x.cls x.name x.desc).onTables && (Jvm.Cond.interfaceMethod x.cls x.cls x.name x.desc).keepsFace) = true) (w2' : (Jvm.Cond.interfaceMethod x.cls x.cls x.name x.desc).before a0 Z = true) (w3 : (Jvm.Cond.selects J x y).before a0 Z = true) (w4 : (Jvm.Cond.instanceMethod y).before a0 Z = true) (w5 : (Jvm.Cond.publicMethod y).before a0 Z = true) (w6 : (Jvm.Cond.unhidden J x.name x.desc).before a0 Z = true) (w7 : (Jvm.Cond.castable J x.cls).before a0 Z = true) (hy : x.cls ≠ "java/lang/invoke/MethodHandle" ∧ x.cls ≠ "java/lang/invoke/VarHandle")
    (E : Exa Z h b J) (pd : parseMethodDescriptor x.desc = some ⟨ps, rt⟩) (hlen : as.length = ps.length) (hi : it' → it) (M : Con l Z a0 EL it' n0 y fr lo cl sl (Value.ref b :: as).toArray h ws' Q') (hd : decode code pc = .ok (.invokeinterface index count, 5)) (hLs : Ls.size = maxL) (hst : stk = as.reverse ++ .ref b :: st) (hW : (st.map fun v => v.category).sum = W)
    (hfr : fr ≤ rm.frames) (hlo : W + lo ≤ rm.locals) (hc : cells + cl ≤ rm.cells) (hs : slots + sl ≤ rm.slots) (hsub : ∀ x ∈ ws', x ∈ ws)
    (r : ∀ (v : Option Value) (h' : Heap), h.size ≤ h'.size → Keep h h' ws' → Q' v h' → WP l Z EL it n0 own h0 ws0 Q K h' ws (cells + cl) (slots + sl) (mkF K.m (pc + 5) Ls (v.toList ++ st))) : WP l Z EL it n0 own h0 ws0 Q K h ws cells slots (mkF K.m pc Ls stk) := by
  intro vm T locs P
  have P0 := P
  obtain ⟨X, eT, ⟨k, hS, hk⟩, hZ, hown, H, N, Kp, O, Ow⟩ := P
  have B := M K.R K.p K.e K.below K.s K.args 5 W vm hZ C.ew H.1 O (fun x hx => ⟨(Ow x (hsub x hx)).1, (Ow x (hsub x hx)).2.1, (Ow x (hsub x hx)).2.2.1⟩) (by rw [C.room]; exact hfr) (by rw [C.room]; exact hlo)
  obtain ⟨cB, kB, q1, q2, q3⟩ := isOf (s := K.s.setVm vm) hZ eT E
  obtain ⟨v, vm₁, ⟨U, locs', cells', slots'⟩, -, X', hS', hgr, ⟨L, ⟨hq, hkp, hN⟩, e1, e2, e3, hC⟩, hgo⟩ := X.interfaceBackS C.exec (xi := x) (y := y) hown (mv hZ w1) (mv hZ w2) (mv hZ w2' hk') (mv hZ w3) (mv hZ w4) (mv hZ w5) (mv hZ w6) (mv hZ w7) hy B q1 q2 q3 (g := mkF K.m pc Ls stk) rfl (hLs.trans C.maxl.symm) (Steps.refl _) (argsL := as) (rest := st) (lenOf pd hlen) hst (by rw [hW]; exact Nat.le_of_eq (Nat.zero_add _)) (hb C.bytes hd) (fun vm₁ _ => ⟨rfl, eT, by rw [C.room]; exact hc, by rw [C.room]; exact hs⟩)
  dsimp only [Pt.U, Pt.locs, Pt.cells, Pt.slots] at X' hS' hgr hq hkp e1 e2 e3 hC hgo
  subst e1 e2 e3
  exact Goes.of (fun t k => hgo.trans k) (r v U.heap hkp.1 hkp hq U.vm U _ (P0.call hi hsub X' hS' hkp hN hC))
theorem Ok.initO (C : Ok l Z a0 EL it n0 own h0 ws0 Q code maxL ret nm rm K) {index : Nat} {a : Nat} (W : Nat) (w1 : (Jvm.Cond.methodLink own index Lib.objectInit).before a0 Z = true) (w2 : (Jvm.Cond.instanceMethod Lib.objectInit).before a0 Z = true) (w3 : (Jvm.Cond.code Lib.objectInit ⟨#[0xb1]⟩ 1 none).before a0 Z = true) (hd : decode code pc = .ok (.invokespecial index, 3)) (hLs : Ls.size = maxL)
    (hW : (st.map fun v => v.category).sum = W) (hfr : 1 ≤ rm.frames) (hlo : W + 12 ≤ rm.locals) (r : WP l Z EL it n0 own h0 ws0 Q K h ws cells slots (mkF K.m (pc + 3) Ls st)) : WP l Z EL it n0 own h0 ws0 Q K h ws cells slots (mkF K.m pc Ls (.ref a :: st)) := by
  intro vm T locs P
  obtain ⟨T', X', e', s'⟩ := RoadKit.initO P.1 C.exec P.2.2.2.1 P.2.2.2.2.1 w1 w2 w3 P.2.1 (g := mkF K.m pc Ls (.ref a :: st)) rfl (hLs.trans C.maxl.symm) rfl (hb C.bytes hd) (by rw [C.room]; exact hfr) (W := W) (by rw [← hW]; exact Nat.le_of_eq (Nat.zero_add _)) (by rw [C.room]; exact hlo)
  exact Goes.of s' (r vm T' locs ⟨X', e', P.2.2⟩)
/-- ldc of a String constant whose text is read -/
theorem Ok.ldcC (C : Ok l Z a0 EL it n0 own h0 ws0 Q code maxL ret nm rm K) (hit : it) {text : String} {index : Nat} {vs : List Value} {z : Int32} (n : Nat) (w : (Jvm.Cond.stringLink own index text).before a0 Z = true) (wS : ∀ a ∈ Bundle.stringAtoms, a.before a0 Z = true) (hmem : (own, index) ∈ EL)
    (ht : (∀ c ∈ text.toList, c.toNat < 256) ∧ text.toList.map (fun c => Value.int (Jvm.Lit.byteI c.toNat.toUInt16)) = vs) (hz : ¬ z < 0) (hl : z.toNatClampNeg = vs.length) (hn : 4 * text.toList.length ≤ n) (hbig : n ≤ 536870912) (hd : decode code pc = .ok (.ldc index, 2)) (hc : cells + 2 ≤ rm.cells) (hl' : slots + (n + 4) ≤ rm.slots)
    (r : ∀ (h' : Heap) (a b : Nat), h.size ≤ h'.size → Keep h h' [] → a < h'.size → b < h'.size → (∀ x ∈ ws, @Ne Nat x a ∧ @Ne Nat x b) → Exa Z h' a "java/lang/String" → Fld Z h' a "java/lang/String" "coder" "B" (.int 0) → Fld Z h' a "java/lang/String" "value" "[B" (.ref b) → Ary Z h' b .byte vs → WP l Z EL it n0 own h0 ws0 Q K h' ws (cells + 2) (slots + (n + 4)) (mkF K.m (pc + 2) Ls (.ref a :: st))) :
    WP l Z EL it n0 own h0 ws0 Q K h ws cells slots (mkF K.m pc Ls st) := by
  intro vm T locs P
  obtain ⟨X, eT, ⟨k, hS, hk⟩, hZ, hown, H, N, Kp, O, Ow⟩ := P
  obtain ⟨a, T', h', k1, b, kc, X', e', E, hS', hk', hZ', hown', F1, F2, F3, F4, la, lb, hC, -, hne, go⟩ := ldcCH X C.exec hZ hown w wS eT hS hk C.ew hmem H.1 ht hz hl (g := mkF K.m pc Ls st) rfl (hb C.bytes hd) hn hbig (by rw [C.room]; exact hc) (by rw [C.room]; exact hl')
  have Sf : ∀ x ∈ ws, Safe Z EL T'.vm h' x := fun x hx => hC.safe (Ow x hx).2.1 (Ow x hx).2.2.1
  exact Goes.of go (r h' a b E.1 (keep_ext E) la lb (fun x hx => hne x (Sf x hx)) F1 F2 F3 (Ary.of_arv F4 hl) T'.vm T' locs ⟨X', e', ⟨k1, hS', hk'⟩, hZ', hown', H.trans (CHx.of hit hC), N, Kp.ext E, O.ext E, fun x hx => ⟨(Ow x hx).1, Nat.lt_of_lt_of_le (Ow x hx).2.1 E.1, Sf x hx, (Ow x hx).2.2.2⟩⟩)
/-- ldc of a String constant, unread -/
theorem Ok.ldcO (C : Ok l Z a0 EL it n0 own h0 ws0 Q code maxL ret nm rm K) (hit : it) {text : String} {index : Nat} (n : Nat) (w : (Jvm.Cond.stringLink own index text).before a0 Z = true) (wS : ∀ a ∈ Bundle.stringAtoms, a.before a0 Z = true) (hn : 4 * text.toList.length ≤ n) (hbig : n ≤ 536870912) (hd : decode code pc = .ok (.ldc index, 2)) (hc : cells + 2 ≤ rm.cells) (hl' : slots + (n + 4) ≤ rm.slots)
    (r : ∀ (h' : Heap) (a : Nat), h.size ≤ h'.size → Keep h h' [] → WP l Z EL it n0 own h0 ws0 Q K h' ws (cells + 2) (slots + (n + 4)) (mkF K.m (pc + 2) Ls (.ref a :: st))) : WP l Z EL it n0 own h0 ws0 Q K h ws cells slots (mkF K.m pc Ls st) := by
  intro vm T locs P
  obtain ⟨X, eT, ⟨k, hS, hk⟩, hZ, hown, H, N, Kp, O, Ow⟩ := P
  obtain ⟨a, T', h', k1, X', e', E, hS', hk', hZ', hown', hC, -, go⟩ := ldcOH X C.exec hZ hown w wS eT hS hk C.ew H.1 (g := mkF K.m pc Ls st) rfl (hb C.bytes hd) hn hbig (by rw [C.room]; exact hc) (by rw [C.room]; exact hl')
  exact Goes.of go (r h' a E.1 (keep_ext E) T'.vm T' locs ⟨X', e', ⟨k1, hS', hk'⟩, hZ', hown', H.trans (CHx.of hit hC), N, Kp.ext E, O.ext E, fun x hx => ⟨(Ow x hx).1, Nat.lt_of_lt_of_le (Ow x hx).2.1 E.1, hC.safe (Ow x hx).2.1 (Ow x hx).2.2.1, (Ow x hx).2.2.2⟩⟩)
end Calls
section Laws
variable {l : Launch} {Z : State} {a0 : Array Value} {EL : List (String × Nat)} {it : Prop} {n0 : Nat} {Q : Option Value → Heap → Prop} {h : Heap} {ws : List Addr}
/-- from the body to the law -/
theorem Met.of {y : MethodName} {bytes : ByteArray} {maxL : Nat} {ret : Option FieldType} {rm : Room} {cs : List Jvm.Cond} {as : Array Value} {own nm : String} (Ls : Array Slot) (hEL : EW Z a0 EL) (ho : y.cls = own) (hn : y.name = nm) (pn : plainFor y = true) (ef : ∀ m, entryFrame m as maxL = mkF m 0 Ls [])
    (body : ∀ K : Ctx, Ok l Z a0 EL it n0 own h ws Q bytes maxL ret nm rm K → WP l Z EL it n0 own h ws Q K h ws 0 0 (mkF K.m 0 Ls [])) : Met l Z EL it n0 y bytes maxL ret rm cs as h ws Q := by
  subst ho hn
  refine MetFree.of_bodySF pn hisR ?_
  intro p e s m args below meth c s₁ Bd hml hP hK
  obtain ⟨rfl, hZ, hh, H, O, hs⟩ := hP
  subst hh
  have X : Stand p l e rm s m args below meth c s₁ [] 0 0 := Stand.of_body Bd
  have hown : s.vm.findClass y.cls = some m.cls := findClass_of_methodNamed Bd.named
  have eh : s₁.heap = s.heap := by rw [Bd.state]; rfl
  obtain ⟨s₂, o, h1, h2, h3, h4⟩ := body (p, e, rm, s, m, args, below, meth, c) ⟨Bd.exec, hEL, Bd.bytes, hml, Bd.returns, (name_of_methodNamed Bd.named Bd.method).1, Bd.notSynchronized, rfl⟩ s.vm s₁ []
    ⟨X, eh, ⟨s.heap.size, (State.WarmedH.refl s).since _, Nat.le_refl _⟩, hZ, hown, CHx.refl H, Fr.nil _, Keep.refl _ _, O, fun x hx => ⟨(hs x hx).1, (hs x hx).2.1, (hs x hx).2.2, Or.inl hx⟩⟩
  exact ⟨s₂, o, castTop (ef m) h1, h2, h3, h4⟩
/-- from the body's law to a caller's -/
theorem Met.con {y : MethodName} {bytes : ByteArray} {maxL : Nat} {ret : Option FieldType} {rm : Room} {as : Array Value} (M : Met l Z EL it n0 y bytes maxL ret rm [] as h ws Q) (wc : (Jvm.Cond.code y bytes maxL ret).before a0 Z = true) (wz : (Jvm.Cond.initialized y.cls).before a0 Z = true) {fr lo cl sl : Nat} (e1 : rm.frames + 1 = fr) (e2 : maxL + 11 + rm.locals = lo) (e3 : rm.cells = cl) (e4 : rm.slots = sl) :
    Con l Z a0 EL it n0 y fr lo cl sl as h ws Q := by
  subst e1 e2 e3 e4
  intro R p e below s args len W vm0 hZ hEL H O hs hf hl
  exact BackS.of_freeW (bytes := bytes) (maxL := maxL) (ret := ret) (E := fun _ first o t L k n => k = rm.cells ∧ n = rm.slots ∧ (∃ v, o = .returned v ∧ Q v t.heap ∧ Keep h t.heap ws ∧ Fr n0 L) ∧ CHx it Z EL first.vm h t.vm t.heap) M hf (by show W + (maxL + 11) + rm.locals ≤ _; omega)
    (fun m meth c A a Y hp => by
      have hU : Z.Warmed39 A.U.vm := wtrans (s := s.setVm vm0) hZ Y.warmed
      exact ⟨by show (Jvm.Cond.and _ .tt).before a A.U = true; rw [Cond.before_and, mv hU wc]; rfl, mv hU wc, mv hU wz, hp.2.2.1, hp.2.2.2⟩)
    (fun m meth c A a g mk Y hp => by
      have q : CHx it Z EL vm0 h A.U.vm h := CHx.still (CHv.at Y hZ hEL H) (Wm.of (s0 := s.setVm vm0) Y.warmed)
      exact ⟨hp.1, wtrans (s := s.setVm vm0) hZ Y.warmed, hp.2.1, q.1, O, fun x hx => ⟨(hs x hx).1, (hs x hx).2.1, q.safe (hs x hx).2.1 (hs x hx).2.2⟩⟩)
    (fun _ _ _ _ _ _ _ _ _ => trivial)
    (fun _ _ _ _ ⟨v, L, h1, h2, h3, h4⟩ => ⟨L, _, _, h4, rfl, rfl, ⟨v, h1, h2⟩, h3⟩)
    (fun m meth c A a g mk v t L k n Y hp _ _ ⟨e1, e2, ⟨v', e3, e4⟩, e5⟩ => by
      cases e3; subst e1 e2
      exact ⟨L, e4, rfl, rfl, rfl, (CHx.still (CHv.at Y hZ hEL H) (Wm.of (s0 := s.setVm vm0) Y.warmed)).trans e5⟩)
theorem Con.wk {y : MethodName} {fr lo cl sl : Nat} {as : Array Value} {Q' : Option Value → Heap → Prop} (M : Con l Z a0 EL it n0 y fr lo cl sl as h ws Q) (hq : ∀ v h', Keep h h' ws → Q v h' → Q' v h') : Con l Z a0 EL it n0 y fr lo cl sl as h ws Q' := by
  intro R p e below s args len W vm0 hZ hEL H O hs hf hl m meth c A g ig mk a X hg hsize hdg hW hn hp
  obtain ⟨v, B, X', hS, hgr, ⟨L, ⟨q1, q2⟩, q3⟩, hst⟩ := M R p e below s args len W vm0 hZ hEL H O hs hf hl m meth c A g ig mk a X hg hsize hdg hW hn hp
  exact ⟨v, B, X', hS, hgr, ⟨L, ⟨hq _ _ q2.1 q1, q2⟩, q3⟩, hst⟩
end Laws
end Own
end Jvm.Pilot.@@N@@
namespace Jvm.Pilot.@@N@@
namespace Own
open Jvm Jvm.ClassFile Sem Op Lib Jvm.Free Jvm.Stand Jvm.LawKit Jvm.RoadKit Bundle
/-! Strings -/
theorem neA {a b : Nat} (q : @LT.lt Nat _ a b ∨ @LT.lt Nat _ b a) : a ≠ b := fun e => by subst e; exact q.elim (Nat.lt_irrefl _) (Nat.lt_irrefl _)
abbrev ST : String := "java/lang/String"
def lo8 (x : Int32) : Int32 := x.toInt8.toInt32
def hi8 (x : Int32) : Int32 := lo8 (x >>> ((8 : Int32) &&& 31))
def wide : List Int32 → List Value
  | [] => []
  | c :: cs => .int (lo8 c) :: .int (hi8 c) :: wide cs
def Codes (cs : List Int32) (cd : Int32) (vs : List Value) : Prop :=
  (cd = 0 ∧ vs = cs.map (fun c => Value.int (lo8 c)) ∧ ∀ c ∈ cs, 0 ≤ c.toInt ∧ c.toInt < 256) ∨ (cd = 1 ∧ vs = wide cs ∧ (∀ c ∈ cs, 0 ≤ c.toInt ∧ c.toInt < 65536) ∧ ∃ c ∈ cs, 255 < c.toInt)
/-- at x stands a String that spells cs; it and its bytes lie below N -/
def Str (Z : State) (h : Heap) (N : Nat) (x : Nat) (cs : List Int32) : Prop :=
  Exa Z h x ST ∧ x < N ∧ N ≤ h.size ∧ ∃ (t : Nat) (cd : Int32) (vs : List Value), t < N ∧ Fld Z h x ST "value" "[B" (.ref t) ∧ Fld Z h x ST "coder" "B" (.int cd) ∧ Ary Z h t .byte vs ∧ Codes cs cd vs
theorem exaLt {Z : State} {h : Heap} {x : Nat} {C : String} (E : Exa Z h x C) : x < h.size := E.lt
theorem fldLt {Z : State} {h : Heap} {x : Nat} {C n d : String} {v : Value} (E : Fld Z h x C n d v) : x < h.size := E.lt
theorem Str.keep {Z : State} {h h' : Heap} {N : Nat} {x : Nat} {cs : List Int32} {us : List Addr} (S : Str Z h N x cs) (Kp : Keep h h' us) (q : ∀ w ∈ us, N ≤ w) : Str Z h' N x cs := by
  obtain ⟨E, hx, hN, t, cd, vs, ht, F1, F2, A, c⟩ := S
  have nx : ∀ z, z < N → z ∉ us := fun z hz hm => by have := q z hm; omega
  exact ⟨E.keep Kp, hx, Nat.le_trans hN Kp.1, t, cd, vs, ht, F1.keep Kp (nx x hx), F2.keep Kp (nx x hx), A.keep Kp (nx t ht), c⟩
/-- null, or a box of class K that holds v -/
def Bx (Z : State) (h : Heap) (K d : String) (v : Value) (w : Value) : Prop := w = .null ∨ ∃ a : Nat, w = .ref a ∧ Exa Z h a K ∧ Fld Z h a K "value" d v
theorem Bx.keep {Z : State} {h h' : Heap} {K d : String} {v w : Value} {us : List Addr} (F : Bx Z h K d v w) (Kp : Keep h h' us) (q : ∀ x ∈ us, False) : Bx Z h' K d v w :=
  F.imp id fun ⟨a, e, E, G⟩ => ⟨a, e, E.keep Kp, G.keep Kp fun m => q _ m⟩
theorem Bx.ref {Z : State} {h : Heap} {K d : String} {v w : Value} (F : Bx Z h K d v w) : w.isRef = true := by
  rcases F with rfl | ⟨a, rfl, -⟩ <;> rfl
/-- null, or an object of class K -/
def Ob (Z : State) (h : Heap) (K : String) (w : Value) : Prop := w = .null ∨ ∃ a : Nat, w = .ref a ∧ Exa Z h a K
theorem Ob.keep {Z : State} {h h' : Heap} {K : String} {w : Value} {us : List Addr} (F : Ob Z h K w) (Kp : Keep h h' us) : Ob Z h' K w := F.imp id fun ⟨a, e, E⟩ => ⟨a, e, E.keep Kp⟩
theorem Ob.ref {Z : State} {h : Heap} {K : String} {w : Value} (F : Ob Z h K w) : w.isRef = true := by
  rcases F with rfl | ⟨a, rfl, -⟩ <;> rfl
theorem cat_ref {w : Value} (r : w.isRef = true) : w.category = 1 := by
  rcases ref_cases r with rfl | ⟨a, rfl⟩ <;> rfl
theorem cat_r (a : Addr) : (Value.ref a).category = 1 := rfl
theorem cat_i (x : Int32) : (Value.int x).category = 1 := rfl
theorem cat_l (x : Int64) : (Value.long x).category = 2 := rfl
theorem cat_n : Value.null.category = 1 := rfl
theorem nar_ref {w : Value} {K : String} (r : w.isRef = true) : narrow (.object K) w = w := by
  rcases ref_cases r with rfl | ⟨a, rfl⟩ <;> rfl
theorem fit_ref {w : Value} {K : String} (r : w.isRef = true) : fits (.object K) w = true := by
  rcases ref_cases r with rfl | ⟨a, rfl⟩ <;> rfl
theorem sub_f {args : Array Value} {first s : State} {o : Option Outcome} {idx : List Nat} {a b : Term} {x y : Int32} (ha : a.eval args first o idx s = some (.int x)) (hb : b.eval args first o idx s = some (.int y)) : (Term.sub a b).eval args first o idx s = some (.int (x - y)) := by simp [Term.eval, ha, hb]
/-- a table of boxes that stood at the start -/
theorem bx_start {s : State} {args : Array Value} {t F : Term} {K d : String} {val : Int32 → Value} (et : ∀ idx, t.eval args s none idx s = t.eval args s none [] s) (ha : (Jvm.Cond.arrayOf t (.object K)).before args s = true) (hl : (Jvm.Cond.eq (.length t) (.int 256)).before args s = true)
    (hall : (Jvm.Cond.all t (.and (.exactly (.elem t (.index 0)) K) (.eq (.field (.elem t (.index 0)) K "value" d) F))).before args s = true)
    (hv : ∀ (X : Term) (j : Int32), ¬ j < 0 → (Jvm.Cond.eq X F).value args s none s [j.toNatClampNeg] = some true → X.eval args s none [j.toNatClampNeg] s = some (val j)) : ∃ (a : Nat) (c : Cell), t.eval args s none [] s = some (.ref a) ∧ Bxs s a c K d 256 val := by
  obtain ⟨a, ea⟩ := arr_v (Cond.before_iff.mp ha)
  obtain ⟨c, A⟩ := RoadKit.Arr.start ea (Cond.before_iff.mp ha)
  have el := eqv_i (Term.int_eval (256)) (Cond.before_iff.mp hl)
  have ha' := A.fin (Vm.Alike.refl _)
  by_cases hq : c.slots.size < 2 ^ 31
  · rw [len_f ea ha' hq] at el
    exact ⟨a, c, ea, Bxs.start (fun idx => (et idx).trans ea) A hq (by injection el with el; injection el) (by decide) (Cond.before_iff.mp hall) hv⟩
  · simp [Term.eval, ea, ha', hq] at el
theorem Str.keepO {Z : State} {a0 : Array Value} {h h' : Heap} {N : Nat} {x a k : Nat} {C : String} {cs : List Int32} (S : Str Z h N x cs) (E : Exa Z h a C) (wi : (Jvm.Cond.instantiable C k).before a0 Z = true) (hx : x ≠ a) (Kp : Keep h h' [a]) : Str Z h' N x cs := by
  obtain ⟨Ex, hxN, hN, t, cd, vs, ht, F1, F2, A, c⟩ := S
  have nx : x ∉ [a] := fun q => hx (List.mem_singleton.mp q)
  have nt : t ∉ [a] := fun q => by
    obtain ⟨cc, A1, -⟩ := A
    exact RoadKit.ne_arr E wi A1 (List.mem_singleton.mp q).symm
  exact ⟨Ex.keep Kp, hxN, Nat.le_trans hN Kp.1, t, cd, vs, ht, F1.keep Kp nx, F2.keep Kp nx, A.keep Kp nt, c⟩
theorem Str.exa {Z : State} {h : Heap} {N : Nat} {x : Nat} {cs : List Int32} (S : Str Z h N x cs) : Exa Z h x ST := S.1
theorem Str.lt {Z : State} {h : Heap} {N : Nat} {x : Nat} {cs : List Int32} (S : Str Z h N x cs) : x < N ∧ N ≤ h.size := ⟨S.2.1, S.2.2.1⟩
theorem ord_of {s : State} {args : Array Value} {t : Term} {x : Nat} {C n d : String} {k : Int32} (ev : t.eval args s none [] s = some (.ref x)) (h : (Jvm.Cond.eq (.field t C n d) (.int k)).value args s none s [] = some true) : s.fieldOf? x C n d = some (.int k) := by
  have q := eqv_i (Term.int_eval k) h
  rwa [fld_at ev] at q
/-! numbers -/
theorem and_chr (x : Int32) : 0 ≤ ((x &&& 255).toUInt32.toUInt16.toUInt32.toInt32).toInt ∧ ((x &&& 255).toUInt32.toUInt16.toUInt32.toInt32).toInt < 256 := by
  have q := c_and x 255 (by decide)
  have e : (255 : Int32).toInt = 255 := by decide
  rw [i2c_id (by omega) (by omega)]
  omega
theorem and_pos (x : Int32) : 0 ≤ (x &&& 2147483647).toInt := (c_and x 2147483647 (by decide)).1
theorem rem_pos {x y : Int32} (k : Int) (hx : 0 ≤ x.toInt) (hy : y.toInt = k) (hk : 0 < k) : 0 ≤ (x % y).toInt ∧ (x % y).toInt < k ∧ (x % y).toInt = x.toInt % k := by
  have q := (c_irem x y k hy).1 hx
  have := Int.emod_nonneg x.toInt (show k ≠ 0 by omega)
  have := Int.emod_lt_of_pos x.toInt hk
  omega
theorem Ary.int {Z : State} {h : Heap} {a : Nat} {vs : List Value} {k : Nat} (A : Ary Z h a .byte vs) (hk : k < vs.length) : ∃ x : Int32, vs[k]? = some (.int x) := by
  obtain ⟨c, -, -, -, f⟩ := A
  have q := f vs[k] (List.getElem_mem hk)
  obtain ⟨x, hx⟩ := fit_I q (by simp)
  exact ⟨x, by rw [List.getElem?_eq_getElem hk, hx]⟩
theorem take_eq_succ {α : Type} {vs us : List α} {k : Nat} {x : α} (q : vs.take k = us.take k) (h1 : vs[k]? = some x) (h2 : us[k]? = some x) : vs.take (k + 1) = us.take (k + 1) := by
  rw [List.take_add_one, List.take_add_one, q, h1, h2]
theorem lo8_inj {x y : Int32} (hx : 0 ≤ x.toInt ∧ x.toInt < 256) (hy : 0 ≤ y.toInt ∧ y.toInt < 256) (e : lo8 x = lo8 y) : x = y := by
  have q1 := c_i2b x
  have q2 := c_i2b y
  have e' : x.toInt8.toInt32.toInt = y.toInt8.toInt32.toInt := by rw [show x.toInt8.toInt32 = y.toInt8.toInt32 from e]
  apply Int32.toInt_inj.mp
  omega
theorem map_lo8_inj : ∀ {cs ds : List Int32}, (∀ c ∈ cs, 0 ≤ c.toInt ∧ c.toInt < 256) → (∀ c ∈ ds, 0 ≤ c.toInt ∧ c.toInt < 256) → cs.map (fun c => Value.int (lo8 c)) = ds.map (fun c => Value.int (lo8 c)) → cs = ds
  | [], [], _, _, _ => rfl
  | [], _ :: _, _, _, h => by simp at h
  | _ :: _, [], _, _, h => by simp at h
  | c :: cs, d :: ds, hc, hd, h => by
    simp only [List.map_cons, List.cons.injEq, Value.int.injEq] at h
    rw [lo8_inj (hc c (by simp)) (hd d (by simp)) h.1, map_lo8_inj (fun z hz => hc z (by simp [hz])) (fun z hz => hd z (by simp [hz])) h.2]
/-- all its chars below 256 -/
def Lat (cs : List Int32) : Prop := ∀ c ∈ cs, c.toInt < 256
theorem Codes.lat {cs : List Int32} {cd : Int32} {vs : List Value} (c : Codes cs cd vs) (hl : Lat cs) : cd = 0 ∧ vs = cs.map (fun c => Value.int (lo8 c)) ∧ ∀ c ∈ cs, 0 ≤ c.toInt ∧ c.toInt < 256 := by
  rcases c with c | ⟨-, -, -, c, hc, q⟩
  · exact c
  · have := hl c hc; omega
theorem wide_len (cs : List Int32) : (wide cs).length = 2 * cs.length := by
  induction cs with
  | nil => rfl
  | cons c cs ih => simp [wide, ih]; omega
theorem Codes.cd {cs : List Int32} {cd : Int32} {vs : List Value} (c : Codes cs cd vs) : cd = 0 ∨ cd = 1 := c.imp (·.1) (·.1)
theorem Codes.len {cs : List Int32} {cd : Int32} {vs : List Value} (c : Codes cs cd vs) (hl : vs.length < 2147483648) : (Int32.ofNat vs.length) >>> (cd &&& 31) = Int32.ofNat cs.length := by
  apply Int32.toInt_inj.mp
  have e : (Int32.ofNat vs.length).toInt = vs.length := Int32.toInt_ofNat_small hl
  rcases c with ⟨rfl, rfl, -⟩ | ⟨rfl, rfl, -⟩
  · rw [c_ishr _ 0 0 (by decide), e]
    simp only [List.length_map] at hl ⊢
    rw [Int32.toInt_ofNat_small hl]; simp
  · rw [c_ishr _ 1 1 (by decide), e]
    rw [wide_len] at hl ⊢
    rw [Int32.toInt_ofNat_small (by omega)]; simp
theorem Codes.nil {cs : List Int32} {cd : Int32} {vs : List Value} (c : Codes cs cd vs) : cs = [] ↔ vs.length = 0 := by
  rcases c with ⟨-, rfl, -⟩ | ⟨-, rfl, -⟩
  · simp
  · rw [wide_len, ← List.length_eq_zero_iff]; omega
theorem lcmp_self (x : Int64) : (lcmpW x x).toInt = 0 := (c_lcmp x x).2.1 rfl
theorem shl1 {x : Int32} (h0 : 0 ≤ x.toInt) (h1 : 2 * x.toInt < 2147483648) : (x <<< ((1 : Int32) &&& 31)).toInt = 2 * x.toInt := by
  have q := c_ishl x 1 1 (by decide)
  have r := rng32 (x <<< ((1 : Int32) &&& 31))
  omega
theorem shr0 (x : Int32) : x >>> ((0 : Int32) &&& 31) = x := by
  apply Int32.toInt_inj.mp
  rw [c_ishr x 0 0 (by decide)]; simp
theorem lo8_and (x : Int32) : (lo8 x &&& 255).toInt = x.toInt % 256 := by
  have q := c_i2b x
  have e := c_mask (lo8 x) 255 8 (by decide) (by decide)
  have e2 : (lo8 x).toInt = x.toInt8.toInt32.toInt := rfl
  omega
theorem pair_chr {c : Int32} (h0 : 0 ≤ c.toInt) (h1 : c.toInt < 65536) : (((lo8 c &&& 255) <<< ((0 : Int32) &&& 31)) ||| ((hi8 c &&& 255) <<< ((8 : Int32) &&& 31))).toUInt32.toUInt16.toUInt32.toInt32 = c := by
  have e1 := lo8_and c
  have e2 := lo8_and (c >>> ((8 : Int32) &&& 31))
  have e3 := c_ishr c 8 8 (by decide)
  have e4 := c_ishl (lo8 c &&& 255) 0 0 (by decide)
  have e5 := c_ishl (hi8 c &&& 255) 8 8 (by decide)
  have r4 := rng32 ((lo8 c &&& 255) <<< ((0 : Int32) &&& 31))
  have r5 := rng32 ((hi8 c &&& 255) <<< ((8 : Int32) &&& 31))
  have e6 : (hi8 c &&& 255).toInt = (lo8 (c >>> ((8 : Int32) &&& 31)) &&& 255).toInt := rfl
  have eq : (((lo8 c &&& 255) <<< ((0 : Int32) &&& 31)) ||| ((hi8 c &&& 255) <<< ((8 : Int32) &&& 31))) = c := by
    rw [Int32.or_comm]
    apply Int32.toInt_inj.mp
    have q := c_or ((hi8 c &&& 255) <<< ((8 : Int32) &&& 31)) ((lo8 c &&& 255) <<< ((0 : Int32) &&& 31)) 8 (by decide) 256 (by decide) (by omega) (by omega) (by omega)
    have r := rng32 (((hi8 c &&& 255) <<< ((8 : Int32) &&& 31)) ||| ((lo8 c &&& 255) <<< ((0 : Int32) &&& 31)))
    omega
  rw [eq, i2c_id h0 h1]
theorem wide_get : ∀ {cs : List Int32} {k : Nat} {c : Int32}, cs[k]? = some c → (wide cs)[2 * k]? = some (.int (lo8 c)) ∧ (wide cs)[2 * k + 1]? = some (.int (hi8 c))
  | [], k, c, h => by simp at h
  | d :: cs, 0, c, h => by
    simp at h; subst h; exact ⟨rfl, rfl⟩
  | d :: cs, k + 1, c, h => by
    have q := wide_get (cs := cs) (k := k) (c := c) (by simpa using h)
    have e : 2 * (k + 1) = 2 * k + 1 + 1 := by omega
    rw [e]
    simpa [wide] using q
theorem wide_app (cs ds : List Int32) : wide (cs ++ ds) = wide cs ++ wide ds := by
  induction cs with
  | nil => rfl
  | cons c cs ih => simp [wide, ih]
theorem wide_step {cs : List Int32} {k j : Nat} {c : Int32} (hc : cs[k]? = some c) : ((wide (cs.take k) ++ List.replicate (2 * (j + 1)) (Value.int 0)).set (2 * k) (.int (lo8 c))).set (2 * k + 1) (.int (hi8 c)) = wide (cs.take (k + 1)) ++ List.replicate (2 * j) (.int 0) := by
  have hk : k < cs.length := (List.getElem?_eq_some_iff.mp hc).1
  have e : cs.take (k + 1) = cs.take k ++ [c] := by rw [List.take_add_one, hc]; rfl
  have hl : (wide (cs.take k)).length = 2 * k := by rw [wide_len, List.length_take, Nat.min_eq_left (Nat.le_of_lt hk)]
  rw [e, wide_app, show 2 * (j + 1) = (2 * j + 1) + 1 by omega]
  rw [List.set_append_right _ _ (by omega), hl, List.set_append_right _ _ (by omega), hl]
  simp [List.replicate_succ, wide, show 2 * k + 1 - 2 * k = 1 by omega]
theorem take_all {cs : List Int32} {k : Nat} {c : Int32} {b : Int} (h : ∀ z ∈ cs.take k, z.toInt < b) (hc : cs[k]? = some c) (hb : c.toInt < b) : ∀ z ∈ cs.take (k + 1), z.toInt < b := by
  intro z hz
  rw [List.take_add_one, hc] at hz
  rcases List.mem_append.mp hz with hz | hz
  · exact h z hz
  · cases List.mem_singleton.mp (show z ∈ [c] from hz); exact hb
theorem cfal_eq {cs : List Int32} {cd n : Int32} {vs : List Value} (c : Codes cs cd vs) (hn : n.toInt = cs.length) (h0 : 0 < n.toInt) (hl : vs.length < 2147483648) : (((n - Int32.ofNat vs.length).toUInt32 >>> ((31 : Int32) &&& 31).toUInt32).toInt32).toInt8.toInt32 = cd := by
  have em : (Int32.ofNat vs.length).toInt = vs.length := Int32.toInt_ofNat_small hl
  have e1 := c_isub n (Int32.ofNat vs.length)
  have e2 := c_iushr (n - Int32.ofNat vs.length) 31 31 (by decide) (by decide)
  have r1 := rng32 (n - Int32.ofNat vs.length)
  have e3 := c_i2b ((n - Int32.ofNat vs.length).toUInt32 >>> ((31 : Int32) &&& 31).toUInt32).toInt32
  apply Int32.toInt_inj.mp
  rcases c with ⟨rfl, rfl, -⟩ | ⟨rfl, rfl, -⟩
  · rw [List.length_map] at *
    have k0 : (0 : Int32).toInt = 0 := rfl
    omega
  · rw [wide_len] at *
    have k1 : (1 : Int32).toInt = 1 := rfl
    omega
theorem Codes.wid {cs : List Int32} {cd : Int32} {vs : List Value} (c : Codes cs cd vs) (h : cd = 1) : vs = wide cs ∧ ∀ c ∈ cs, 0 ≤ c.toInt ∧ c.toInt < 65536 := by
  rcases c with c | c
  · rw [c.1] at h; exact absurd h (by decide)
  · exact ⟨c.2.1, c.2.2.1⟩
theorem Codes.lo {cs : List Int32} {cd : Int32} {vs : List Value} (c : Codes cs cd vs) (h : cd = 0) : vs = cs.map (fun c => Value.int (lo8 c)) ∧ ∀ c ∈ cs, 0 ≤ c.toInt ∧ c.toInt < 256 := by
  rcases c with c | c
  · exact ⟨c.2.1, c.2.2⟩
  · rw [c.1] at h; exact absurd h (by decide)
theorem Codes.bnd {cs : List Int32} {cd : Int32} {vs : List Value} (c : Codes cs cd vs) : ∀ c ∈ cs, 0 ≤ c.toInt ∧ c.toInt < 65536 := by
  rcases c with c | c
  · intro z hz
    have := c.2.2 z hz
    omega
  · exact c.2.2.1
theorem sub_int {x y : Int32} (h1 : -2147483648 ≤ x.toInt - y.toInt) (h2 : x.toInt - y.toInt < 2147483648) : (x - y).toInt = x.toInt - y.toInt := by
  have q := c_isub x y
  have r := rng32 (x - y)
  omega
theorem add_int {x y : Int32} (h1 : -2147483648 ≤ x.toInt + y.toInt) (h2 : x.toInt + y.toInt < 2147483648) : (x + y).toInt = x.toInt + y.toInt := by
  have q := c_iadd x y
  have r := rng32 (x + y)
  omega
theorem nchar {x : Int32} (h0 : 0 ≤ x.toInt) (h1 : x.toInt < 65536) : narrow .char (.int x) = .int x := by
  show Value.int (nar .char x) = _
  rw [nar_char h0 h1]
theorem ofNat_int {k : Nat} (h : k < 2147483648) : (Int32.ofNat k).toInt = k := Int32.toInt_ofNat_small h
theorem ofNat_succ (k : Nat) : Int32.ofNat k + (1 : Int32) = Int32.ofNat (k + 1) := by
  rw [show (1 : Int32) = Int32.ofNat 1 from rfl, ← Int32.ofNat_add]
theorem lo8_lo8 (x : Int32) : x.toInt8.toInt32.toInt8.toInt32 = lo8 x := by
  show (x.toInt8.toInt32.toInt8).toInt32 = x.toInt8.toInt32
  rw [Int8.toInt8_toInt32]
theorem fill_step {α β : Type} (f : α → β) (z : β) {cs : List α} {k j : Nat} {c : α} (hc : cs[k]? = some c) : ((cs.take k).map f ++ List.replicate (j + 1) z).set k (f c) = (cs.take (k + 1)).map f ++ List.replicate j z := by
  have hk : k < cs.length := (List.getElem?_eq_some_iff.mp hc).1
  have e : cs.take (k + 1) = cs.take k ++ [c] := by rw [List.take_add_one, hc]; rfl
  rw [e, List.map_append, List.set_append_right _ _ (by simp; omega)]
  simp [List.replicate_succ, Nat.min_eq_left (Nat.le_of_lt hk)]
/-! surrogates -/
abbrev Hi (c : Int32) : Prop := 55296 ≤ c.toInt ∧ c.toInt ≤ 56319
abbrev Lo (c : Int32) : Prop := 56320 ≤ c.toInt ∧ c.toInt ≤ 57343
/-- how many neighbours are a surrogate pair -/
def prs : List Int32 → Nat
  | [] => 0
  | [_] => 0
  | a :: b :: r => (if Hi a ∧ Lo b then 1 else 0) + prs (b :: r)
theorem prs_le : ∀ cs : List Int32, prs cs ≤ cs.length
  | [] => Nat.le_refl _
  | [_] => Nat.zero_le _
  | a :: b :: r => by
    have := prs_le (b :: r)
    simp only [prs, List.length_cons] at *
    split <;> omega
theorem prs_skip {b : Int32} (r : List Int32) (hb : ¬ Hi b) : prs (b :: r) = prs r := by
  cases r with
  | nil => rfl
  | cons c r => simp only [prs]; rw [if_neg (fun q => hb q.1)]; omega
theorem prs_drop_last {cs : List Int32} {k : Nat} (h : cs.length ≤ k + 1) : prs (cs.drop k) = 0 := by
  have hl : (cs.drop k).length ≤ 1 := by simp; omega
  match hd : cs.drop k, hl with
  | [], _ => rfl
  | [_], _ => rfl
theorem drop_two {cs : List Int32} {k : Nat} {c d : Int32} (hc : cs[k]? = some c) (hd : cs[k + 1]? = some d) : cs.drop k = c :: d :: cs.drop (k + 2) := by
  obtain ⟨h1, rfl⟩ := List.getElem?_eq_some_iff.mp hc
  obtain ⟨h2, rfl⟩ := List.getElem?_eq_some_iff.mp hd
  rw [List.drop_eq_getElem_cons h1, List.drop_eq_getElem_cons h2]
theorem prs_no {cs : List Int32} {k : Nat} {c d : Int32} (hc : cs[k]? = some c) (hd : cs[k + 1]? = some d) (hn : ¬ (Hi c ∧ Lo d)) : prs (cs.drop k) = prs (cs.drop (k + 1)) := by
  have e2 : cs.drop (k + 1) = d :: cs.drop (k + 2) := by
    obtain ⟨h2, rfl⟩ := List.getElem?_eq_some_iff.mp hd
    rw [List.drop_eq_getElem_cons h2]
  rw [drop_two hc hd, e2]
  simp only [prs]
  rw [if_neg hn]; omega
theorem prs_yes {cs : List Int32} {k : Nat} {c d : Int32} (hc : cs[k]? = some c) (hd : cs[k + 1]? = some d) (hn : Hi c ∧ Lo d) : prs (cs.drop k) = 1 + prs (cs.drop (k + 2)) := by
  rw [drop_two hc hd]
  simp only [prs]
  rw [if_pos hn, prs_skip _ (fun q => by have := hn.2; omega)]
theorem prs_lat {cs : List Int32} (h : ∀ c ∈ cs, c.toInt < 256) : prs cs = 0 := by
  induction cs with
  | nil => rfl
  | cons a r ih => rw [prs_skip r (fun q => by have := h a (by simp); omega)]; exact ih fun c hc => h c (by simp [hc])
end Own
end Jvm.Pilot.@@N@@
namespace Jvm.Pilot.@@N@@
open Jvm Jvm.ClassFile Sem Op Lib Jvm.Free Jvm.Stand Jvm.LawKit Jvm.RoadKit Bundle Jvm.Pilot.@@N@@.Jvm.D Jvm.Pilot.@@N@@.Own
abbrev EL : List (String × Nat) := [("java/lang/String", 7)]
def Base (Z : State) (a0 : Array Value) (kS : Nat) (kT : Nat) (kP : Nat) (ia : Nat) (ic : Cell) (la : Nat) (lc : Cell) : Prop := (∀ d ∈ tables_1, d.before a0 Z = true) ∧ (∃ zc : Int32, Sta Z Z.heap "java/lang/String" "COMPACT_STRINGS" "Z" (.int zc) ∧ ¬ zc = 0) ∧ Sta Z Z.heap "com/example/delayed_task_dispatch/delayedtaskdispatch/model/Target$Kind" "CALLBACK" "Lcom/example/delayed_task_dispatch/delayedtaskdispatch/model/Target$Kind;" (.ref kS) ∧ Sta Z Z.heap "com/example/delayed_task_dispatch/delayedtaskdispatch/model/Target$Kind" "STREAM" "Lcom/example/delayed_task_dispatch/delayedtaskdispatch/model/Target$Kind;" (.ref kT) ∧ Sta Z Z.heap "com/example/delayed_task_dispatch/delayedtaskdispatch/model/TaskState" "PENDING" "Lcom/example/delayed_task_dispatch/delayedtaskdispatch/model/TaskState;" (.ref kP) ∧ Sta Z Z.heap "java/lang/Integer$IntegerCache" "high" "I" (.int 127) ∧ Sta Z Z.heap "java/lang/Integer$IntegerCache" "cache" "[Ljava/lang/Integer;" (.ref ia) ∧ Bxs Z ia ic "java/lang/Integer" "I" 256 (fun j => .int (j - 128)) ∧ Sta Z Z.heap "java/lang/Long$LongCache" "cache" "[Ljava/lang/Long;" (.ref la) ∧ Bxs Z la lc "java/lang/Long" "J" 256 (fun j => .long (j - 128).toInt64)
variable {l : Launch} {Z : State} {a0 : Array Value} {it : Prop} {n0 : Nat}
theorem ew {kS : Nat} {kT : Nat} {kP : Nat} {ia : Nat} {ic : Cell} {la : Nat} {lc : Cell} (B : Base Z a0 kS kT kP ia ic la lc) : EW Z a0 EL := EW.cons (text := "") (B.1 _ (List.mem_of_getElem? (i := 18) rfl)) (by decide) (EW.nil)
theorem sA_mem : ∀ d ∈ Bundle.stringAtoms, d ∈ tables_1 := by decide +kernel
theorem sA {kS : Nat} {kT : Nat} {kP : Nat} {ia : Nat} {ic : Cell} {la : Nat} {lc : Cell} (B : Base Z a0 kS kT kP ia ic la lc) : ∀ d ∈ Bundle.stringAtoms, d.before a0 Z = true := fun d hd => B.1 d (sA_mem d hd)
theorem d0_0 : decode jdk_30_method_1_code 0 = .ok (.aload_n 0, 1) := by decide +kernel
theorem d0_1 : decode jdk_30_method_1_code 1 = .ok (.invokespecial 1, 3) := by decide +kernel
theorem d0_4 : decode jdk_30_method_1_code 4 = .ok (.return_, 1) := by decide +kernel
theorem pn_java_lang_Record : plainName "java/lang/Record" = true := by first | (simp [plainName, overriddenIn]; done) | decide +kernel
theorem d1_0 : decode jdk_52_method_15_code 0 = .ok (.iload_n 1, 1) := by decide +kernel
theorem d1_1 : decode jdk_52_method_15_code 1 = .ok (.aload_n 0, 1) := by decide +kernel
theorem d1_2 : decode jdk_52_method_15_code 2 = .ok (.arraylength, 1) := by decide +kernel
theorem d1_3 : decode jdk_52_method_15_code 3 = .ok (.isub, 1) := by decide +kernel
theorem d1_4 : decode jdk_52_method_15_code 4 = .ok (.bipush 31, 2) := by decide +kernel
theorem d1_6 : decode jdk_52_method_15_code 6 = .ok (.iushr, 1) := by decide +kernel
theorem d1_7 : decode jdk_52_method_15_code 7 = .ok (.i2b, 1) := by decide +kernel
theorem d1_8 : decode jdk_52_method_15_code 8 = .ok (.ireturn, 1) := by decide +kernel
theorem pn_java_lang_StringUTF16 : plainName "java/lang/StringUTF16" = true := by first | (simp [plainName, overriddenIn]; done) | decide +kernel
theorem d2_0 : decode jdk_52_method_21_code 0 = .ok (.iconst 0, 1) := by decide +kernel
theorem d2_1 : decode jdk_52_method_21_code 1 = .ok (.istore 5, 2) := by decide +kernel
theorem d2_3 : decode jdk_52_method_21_code 3 = .ok (.iload 5, 2) := by decide +kernel
theorem d2_5 : decode jdk_52_method_21_code 5 = .ok (.iload 4, 2) := by decide +kernel
theorem d2_7 : decode jdk_52_method_21_code 7 = .ok (.if_icmp .ge 37, 3) := by decide +kernel
theorem d2_44 : decode jdk_52_method_21_code 44 = .ok (.iload 4, 2) := by decide +kernel
theorem d2_46 : decode jdk_52_method_21_code 46 = .ok (.ireturn, 1) := by decide +kernel
theorem d2_10 : decode jdk_52_method_21_code 10 = .ok (.aload_n 0, 1) := by decide +kernel
theorem d2_11 : decode jdk_52_method_21_code 11 = .ok (.iload_n 1, 1) := by decide +kernel
theorem d2_12 : decode jdk_52_method_21_code 12 = .ok (.caload, 1) := by decide +kernel
theorem d2_13 : decode jdk_52_method_21_code 13 = .ok (.istore 6, 2) := by decide +kernel
theorem d2_15 : decode jdk_52_method_21_code 15 = .ok (.iload 6, 2) := by decide +kernel
theorem d2_17 : decode jdk_52_method_21_code 17 = .ok (.sipush 255, 3) := by decide +kernel
theorem d2_20 : decode jdk_52_method_21_code 20 = .ok (.if_icmp .le 6, 3) := by decide +kernel
theorem d2_26 : decode jdk_52_method_21_code 26 = .ok (.aload_n 2, 1) := by decide +kernel
theorem d2_27 : decode jdk_52_method_21_code 27 = .ok (.iload_n 3, 1) := by decide +kernel
theorem d2_28 : decode jdk_52_method_21_code 28 = .ok (.iload 6, 2) := by decide +kernel
theorem d2_30 : decode jdk_52_method_21_code 30 = .ok (.i2b, 1) := by decide +kernel
theorem d2_31 : decode jdk_52_method_21_code 31 = .ok (.bastore, 1) := by decide +kernel
theorem d2_32 : decode jdk_52_method_21_code 32 = .ok (.iinc 1 1, 3) := by decide +kernel
theorem d2_35 : decode jdk_52_method_21_code 35 = .ok (.iinc 3 1, 3) := by decide +kernel
theorem d2_38 : decode jdk_52_method_21_code 38 = .ok (.iinc 5 1, 3) := by decide +kernel
theorem d2_41 : decode jdk_52_method_21_code 41 = .ok (.goto (-38), 3) := by decide +kernel
theorem d3_0 : decode jdk_52_method_16_code 0 = .ok (.iload_n 2, 1) := by decide +kernel
theorem d3_1 : decode jdk_52_method_16_code 1 = .ok (.newarray .byte, 2) := by decide +kernel
theorem d3_3 : decode jdk_52_method_16_code 3 = .ok (.astore_n 3, 1) := by decide +kernel
theorem d3_4 : decode jdk_52_method_16_code 4 = .ok (.aload_n 0, 1) := by decide +kernel
theorem d3_5 : decode jdk_52_method_16_code 5 = .ok (.iload_n 1, 1) := by decide +kernel
theorem d3_6 : decode jdk_52_method_16_code 6 = .ok (.aload_n 3, 1) := by decide +kernel
theorem d3_7 : decode jdk_52_method_16_code 7 = .ok (.iconst 0, 1) := by decide +kernel
theorem d3_8 : decode jdk_52_method_16_code 8 = .ok (.iload_n 2, 1) := by decide +kernel
theorem d3_9 : decode jdk_52_method_16_code 9 = .ok (.invokestatic 115, 3) := by decide +kernel
theorem pd__28__5b_CI_5b_BII_29_I : parseMethodDescriptor "([CI[BII)I" = some ⟨[(.array .char), .int, (.array .byte), .int, .int], some .int⟩ := by decide +kernel
theorem d3_12 : decode jdk_52_method_16_code 12 = .ok (.istore 4, 2) := by decide +kernel
theorem d3_14 : decode jdk_52_method_16_code 14 = .ok (.iload 4, 2) := by decide +kernel
theorem d3_16 : decode jdk_52_method_16_code 16 = .ok (.iload_n 2, 1) := by decide +kernel
theorem d3_17 : decode jdk_52_method_16_code 17 = .ok (.if_icmp .eq 40, 3) := by decide +kernel
theorem d3_57 : decode jdk_52_method_16_code 57 = .ok (.aload_n 3, 1) := by decide +kernel
theorem d3_58 : decode jdk_52_method_16_code 58 = .ok (.areturn, 1) := by decide +kernel
theorem d4_0 : decode jdk_42_method_149_code 0 = .ok (.aload_n 0, 1) := by decide +kernel
theorem d4_1 : decode jdk_42_method_149_code 1 = .ok (.invokespecial 1, 3) := by decide +kernel
theorem d4_4 : decode jdk_42_method_149_code 4 = .ok (.iload_n 3, 1) := by decide +kernel
theorem d4_5 : decode jdk_42_method_149_code 5 = .ok (.ifCond .ne 22, 3) := by decide +kernel
theorem d4_27 : decode jdk_42_method_149_code 27 = .ok (.getstatic 38, 3) := by decide +kernel
theorem d4_30 : decode jdk_42_method_149_code 30 = .ok (.ifCond .eq 28, 3) := by decide +kernel
theorem d4_33 : decode jdk_42_method_149_code 33 = .ok (.aload_n 1, 1) := by decide +kernel
theorem d4_34 : decode jdk_42_method_149_code 34 = .ok (.iload_n 2, 1) := by decide +kernel
theorem d4_35 : decode jdk_42_method_149_code 35 = .ok (.iload_n 3, 1) := by decide +kernel
theorem d4_36 : decode jdk_42_method_149_code 36 = .ok (.invokestatic 177, 3) := by decide +kernel
theorem pd__28__5b_CII_29__5b_B : parseMethodDescriptor "([CII)[B" = some ⟨[(.array .char), .int, .int], some (.array .byte)⟩ := by decide +kernel
theorem d4_39 : decode jdk_42_method_149_code 39 = .ok (.astore 5, 2) := by decide +kernel
theorem d4_41 : decode jdk_42_method_149_code 41 = .ok (.aload_n 0, 1) := by decide +kernel
theorem d4_42 : decode jdk_42_method_149_code 42 = .ok (.aload 5, 2) := by decide +kernel
theorem d4_44 : decode jdk_42_method_149_code 44 = .ok (.iload_n 3, 1) := by decide +kernel
theorem d4_45 : decode jdk_42_method_149_code 45 = .ok (.invokestatic 47, 3) := by decide +kernel
theorem pd__28__5b_BI_29_B : parseMethodDescriptor "([BI)B" = some ⟨[(.array .byte), .int], some .byte⟩ := by decide +kernel
theorem d4_48 : decode jdk_42_method_149_code 48 = .ok (.putfield 15, 3) := by decide +kernel
theorem d4_51 : decode jdk_42_method_149_code 51 = .ok (.aload_n 0, 1) := by decide +kernel
theorem d4_52 : decode jdk_42_method_149_code 52 = .ok (.aload 5, 2) := by decide +kernel
theorem d4_54 : decode jdk_42_method_149_code 54 = .ok (.putfield 9, 3) := by decide +kernel
theorem d4_57 : decode jdk_42_method_149_code 57 = .ok (.return_, 1) := by decide +kernel
theorem d4_8 : decode jdk_42_method_149_code 8 = .ok (.aload_n 0, 1) := by decide +kernel
theorem d4_9 : decode jdk_42_method_149_code 9 = .ok (.ldc 7, 2) := by decide +kernel
theorem d4_11 : decode jdk_42_method_149_code 11 = .ok (.getfield 9, 3) := by decide +kernel
theorem d4_14 : decode jdk_42_method_149_code 14 = .ok (.putfield 9, 3) := by decide +kernel
theorem d4_17 : decode jdk_42_method_149_code 17 = .ok (.aload_n 0, 1) := by decide +kernel
theorem d4_18 : decode jdk_42_method_149_code 18 = .ok (.ldc 7, 2) := by decide +kernel
theorem d4_20 : decode jdk_42_method_149_code 20 = .ok (.getfield 15, 3) := by decide +kernel
theorem d4_23 : decode jdk_42_method_149_code 23 = .ok (.putfield 15, 3) := by decide +kernel
theorem d4_26 : decode jdk_42_method_149_code 26 = .ok (.return_, 1) := by decide +kernel
theorem pn_java_lang_String : plainName "java/lang/String" = true := by first | (simp [plainName, overriddenIn]; done) | decide +kernel
theorem d5_0 : decode jdk_42_method_3_code 0 = .ok (.aload_n 0, 1) := by decide +kernel
theorem d5_1 : decode jdk_42_method_3_code 1 = .ok (.aload_n 1, 1) := by decide +kernel
theorem d5_2 : decode jdk_42_method_3_code 2 = .ok (.iconst 0, 1) := by decide +kernel
theorem d5_3 : decode jdk_42_method_3_code 3 = .ok (.aload_n 1, 1) := by decide +kernel
theorem d5_4 : decode jdk_42_method_3_code 4 = .ok (.arraylength, 1) := by decide +kernel
theorem d5_5 : decode jdk_42_method_3_code 5 = .ok (.aconst_null, 1) := by decide +kernel
theorem d5_6 : decode jdk_42_method_3_code 6 = .ok (.invokespecial 27, 3) := by decide +kernel
theorem pd__28__5b_CIILjava_2f_lang_2f_Void_3b__29_V : parseMethodDescriptor "([CIILjava/lang/Void;)V" = some ⟨[(.array .char), .int, .int, (.object "java/lang/Void")], none⟩ := by decide +kernel
theorem d5_9 : decode jdk_42_method_3_code 9 = .ok (.return_, 1) := by decide +kernel
theorem d6_0 : decode jdk_42_method_66_code 0 = .ok (.aload_n 0, 1) := by decide +kernel
theorem d6_1 : decode jdk_42_method_66_code 1 = .ok (.aload_n 1, 1) := by decide +kernel
theorem d6_2 : decode jdk_42_method_66_code 2 = .ok (.if_acmp .ne 5, 3) := by decide +kernel
theorem d6_5 : decode jdk_42_method_66_code 5 = .ok (.iconst 1, 1) := by decide +kernel
theorem d6_6 : decode jdk_42_method_66_code 6 = .ok (.ireturn, 1) := by decide +kernel
theorem d7_0 : decode jdk_43_method_3_code 0 = .ok (.iload_n 0, 1) := by decide +kernel
theorem d7_1 : decode jdk_43_method_3_code 1 = .ok (.sipush 255, 3) := by decide +kernel
theorem d7_4 : decode jdk_43_method_3_code 4 = .ok (.if_icmp .gt 7, 3) := by decide +kernel
theorem d7_7 : decode jdk_43_method_3_code 7 = .ok (.iconst 1, 1) := by decide +kernel
theorem d7_8 : decode jdk_43_method_3_code 8 = .ok (.goto 4, 3) := by decide +kernel
theorem d7_12 : decode jdk_43_method_3_code 12 = .ok (.ireturn, 1) := by decide +kernel
theorem pn_java_lang_StringLatin1 : plainName "java/lang/StringLatin1" = true := by first | (simp [plainName, overriddenIn]; done) | decide +kernel
theorem d8_0 : decode jdk_43_method_46_code 0 = .ok (.iconst 1, 1) := by decide +kernel
theorem d8_1 : decode jdk_43_method_46_code 1 = .ok (.newarray .byte, 2) := by decide +kernel
theorem d8_3 : decode jdk_43_method_46_code 3 = .ok (.dup, 1) := by decide +kernel
theorem d8_4 : decode jdk_43_method_46_code 4 = .ok (.iconst 0, 1) := by decide +kernel
theorem d8_5 : decode jdk_43_method_46_code 5 = .ok (.iload_n 0, 1) := by decide +kernel
theorem d8_6 : decode jdk_43_method_46_code 6 = .ok (.i2b, 1) := by decide +kernel
theorem d8_7 : decode jdk_43_method_46_code 7 = .ok (.bastore, 1) := by decide +kernel
theorem d8_8 : decode jdk_43_method_46_code 8 = .ok (.areturn, 1) := by decide +kernel
theorem d9_0 : decode jdk_42_method_151_code 0 = .ok (.aload_n 0, 1) := by decide +kernel
theorem d9_1 : decode jdk_42_method_151_code 1 = .ok (.invokespecial 1, 3) := by decide +kernel
theorem d9_4 : decode jdk_42_method_151_code 4 = .ok (.aload_n 0, 1) := by decide +kernel
theorem d9_5 : decode jdk_42_method_151_code 5 = .ok (.aload_n 1, 1) := by decide +kernel
theorem d9_6 : decode jdk_42_method_151_code 6 = .ok (.putfield 9, 3) := by decide +kernel
theorem d9_9 : decode jdk_42_method_151_code 9 = .ok (.aload_n 0, 1) := by decide +kernel
theorem d9_10 : decode jdk_42_method_151_code 10 = .ok (.iload_n 2, 1) := by decide +kernel
theorem d9_11 : decode jdk_42_method_151_code 11 = .ok (.putfield 15, 3) := by decide +kernel
theorem d9_14 : decode jdk_42_method_151_code 14 = .ok (.return_, 1) := by decide +kernel
theorem d10_0 : decode jdk_42_method_139_code 0 = .ok (.getstatic 38, 3) := by decide +kernel
theorem d10_3 : decode jdk_42_method_139_code 3 = .ok (.ifCond .eq 23, 3) := by decide +kernel
theorem d10_6 : decode jdk_42_method_139_code 6 = .ok (.iload_n 0, 1) := by decide +kernel
theorem d10_7 : decode jdk_42_method_139_code 7 = .ok (.invokestatic 1015, 3) := by decide +kernel
theorem pd__28_C_29_Z : parseMethodDescriptor "(C)Z" = some ⟨[.char], some .boolean⟩ := by decide +kernel
theorem d10_10 : decode jdk_42_method_139_code 10 = .ok (.ifCond .eq 16, 3) := by decide +kernel
theorem d10_13 : decode jdk_42_method_139_code 13 = .ok (.new 10, 3) := by decide +kernel
theorem d10_16 : decode jdk_42_method_139_code 16 = .ok (.dup, 1) := by decide +kernel
theorem d10_17 : decode jdk_42_method_139_code 17 = .ok (.iload_n 0, 1) := by decide +kernel
theorem d10_18 : decode jdk_42_method_139_code 18 = .ok (.invokestatic 1018, 3) := by decide +kernel
theorem pd__28_C_29__5b_B : parseMethodDescriptor "(C)[B" = some ⟨[.char], some (.array .byte)⟩ := by decide +kernel
theorem d10_21 : decode jdk_42_method_139_code 21 = .ok (.iconst 0, 1) := by decide +kernel
theorem d10_22 : decode jdk_42_method_139_code 22 = .ok (.invokespecial 209, 3) := by decide +kernel
theorem pd__28__5b_BB_29_V : parseMethodDescriptor "([BB)V" = some ⟨[(.array .byte), .byte], none⟩ := by decide +kernel
theorem d10_25 : decode jdk_42_method_139_code 25 = .ok (.areturn, 1) := by decide +kernel
theorem d11_0 : decode prog_6_method_1_code 0 = .ok (.aload_n 0, 1) := by decide +kernel
theorem d11_1 : decode prog_6_method_1_code 1 = .ok (.invokespecial 1, 3) := by decide +kernel
theorem pd__28__29_V : parseMethodDescriptor "()V" = some ⟨[], none⟩ := by decide +kernel
theorem d11_4 : decode prog_6_method_1_code 4 = .ok (.aload_n 0, 1) := by decide +kernel
theorem d11_5 : decode prog_6_method_1_code 5 = .ok (.aload_n 1, 1) := by decide +kernel
theorem d11_6 : decode prog_6_method_1_code 6 = .ok (.putfield 7, 3) := by decide +kernel
theorem d11_9 : decode prog_6_method_1_code 9 = .ok (.aload_n 0, 1) := by decide +kernel
theorem d11_10 : decode prog_6_method_1_code 10 = .ok (.aload_n 2, 1) := by decide +kernel
theorem d11_11 : decode prog_6_method_1_code 11 = .ok (.putfield 13, 3) := by decide +kernel
theorem d11_14 : decode prog_6_method_1_code 14 = .ok (.return_, 1) := by decide +kernel
theorem pn_com_example_delayed_task_dispatch_delayedtaskdispatch_model_Target : plainName "com/example/delayed_task_dispatch/delayedtaskdispatch/model/Target" = true := by first | (simp [plainName, overriddenIn]; done) | decide +kernel
theorem d12_0 : decode prog_6_method_2_code 0 = .ok (.new 8, 3) := by decide +kernel
theorem d12_3 : decode prog_6_method_2_code 3 = .ok (.dup, 1) := by decide +kernel
theorem d12_4 : decode prog_6_method_2_code 4 = .ok (.getstatic 17, 3) := by decide +kernel
theorem d12_7 : decode prog_6_method_2_code 7 = .ok (.aload_n 0, 1) := by decide +kernel
theorem d12_8 : decode prog_6_method_2_code 8 = .ok (.invokespecial 22, 3) := by decide +kernel
theorem pd__28_Lcom_2f_example_2f_delayed_task_dispatch_2f_delayedtaskdispatch_2f_model_2f_Target_24_Kind_3b_Ljava_2f_lang_2f_String_3b__29_V : parseMethodDescriptor "(Lcom/example/delayed_task_dispatch/delayedtaskdispatch/model/Target$Kind;Ljava/lang/String;)V" = some ⟨[(.object "com/example/delayed_task_dispatch/delayedtaskdispatch/model/Target$Kind"), (.object "java/lang/String")], none⟩ := by decide +kernel
theorem d12_11 : decode prog_6_method_2_code 11 = .ok (.areturn, 1) := by decide +kernel
theorem d13_0 : decode prog_6_method_3_code 0 = .ok (.new 8, 3) := by decide +kernel
theorem d13_3 : decode prog_6_method_3_code 3 = .ok (.dup, 1) := by decide +kernel
theorem d13_4 : decode prog_6_method_3_code 4 = .ok (.getstatic 25, 3) := by decide +kernel
theorem d13_7 : decode prog_6_method_3_code 7 = .ok (.aload_n 0, 1) := by decide +kernel
theorem d13_8 : decode prog_6_method_3_code 8 = .ok (.invokespecial 22, 3) := by decide +kernel
theorem d13_11 : decode prog_6_method_3_code 11 = .ok (.areturn, 1) := by decide +kernel
theorem d14_0 : decode jdk_18_method_1_code 0 = .ok (.aload_n 0, 1) := by decide +kernel
theorem d14_1 : decode jdk_18_method_1_code 1 = .ok (.invokespecial 1, 3) := by decide +kernel
theorem d14_4 : decode jdk_18_method_1_code 4 = .ok (.return_, 1) := by decide +kernel
theorem pn_java_lang_Number : plainName "java/lang/Number" = true := by first | (simp [plainName, overriddenIn]; done) | decide +kernel
theorem d15_0 : decode jdk_35_method_26_code 0 = .ok (.aload_n 0, 1) := by decide +kernel
theorem d15_1 : decode jdk_35_method_26_code 1 = .ok (.invokespecial 270, 3) := by decide +kernel
theorem d15_4 : decode jdk_35_method_26_code 4 = .ok (.aload_n 0, 1) := by decide +kernel
theorem d15_5 : decode jdk_35_method_26_code 5 = .ok (.lload_n 1, 1) := by decide +kernel
theorem d15_6 : decode jdk_35_method_26_code 6 = .ok (.putfield 273, 3) := by decide +kernel
theorem d15_9 : decode jdk_35_method_26_code 9 = .ok (.return_, 1) := by decide +kernel
theorem pn_java_lang_Long : plainName "java/lang/Long" = true := by first | (simp [plainName, overriddenIn]; done) | decide +kernel
theorem d16_0 : decode jdk_35_method_24_code 0 = .ok (.sipush 128, 3) := by decide +kernel
theorem d16_3 : decode jdk_35_method_24_code 3 = .ok (.istore_n 2, 1) := by decide +kernel
theorem d16_4 : decode jdk_35_method_24_code 4 = .ok (.lload_n 0, 1) := by decide +kernel
theorem d16_5 : decode jdk_35_method_24_code 5 = .ok (.ldc2_w 230, 3) := by decide +kernel
theorem d16_8 : decode jdk_35_method_24_code 8 = .ok (.lcmp, 1) := by decide +kernel
theorem d16_9 : decode jdk_35_method_24_code 9 = .ok (.ifCond .lt 22, 3) := by decide +kernel
theorem d16_31 : decode jdk_35_method_24_code 31 = .ok (.new 1, 3) := by decide +kernel
theorem d16_34 : decode jdk_35_method_24_code 34 = .ok (.dup, 1) := by decide +kernel
theorem d16_35 : decode jdk_35_method_24_code 35 = .ok (.lload_n 0, 1) := by decide +kernel
theorem d16_36 : decode jdk_35_method_24_code 36 = .ok (.invokespecial 240, 3) := by decide +kernel
theorem pd__28_J_29_V : parseMethodDescriptor "(J)V" = some ⟨[.long], none⟩ := by decide +kernel
theorem d16_39 : decode jdk_35_method_24_code 39 = .ok (.areturn, 1) := by decide +kernel
theorem d16_12 : decode jdk_35_method_24_code 12 = .ok (.lload_n 0, 1) := by decide +kernel
theorem d16_13 : decode jdk_35_method_24_code 13 = .ok (.ldc2_w 232, 3) := by decide +kernel
theorem d16_16 : decode jdk_35_method_24_code 16 = .ok (.lcmp, 1) := by decide +kernel
theorem d16_17 : decode jdk_35_method_24_code 17 = .ok (.ifCond .gt 14, 3) := by decide +kernel
theorem d16_20 : decode jdk_35_method_24_code 20 = .ok (.getstatic 234, 3) := by decide +kernel
theorem d16_23 : decode jdk_35_method_24_code 23 = .ok (.lload_n 0, 1) := by decide +kernel
theorem d16_24 : decode jdk_35_method_24_code 24 = .ok (.l2i, 1) := by decide +kernel
theorem d16_25 : decode jdk_35_method_24_code 25 = .ok (.sipush 128, 3) := by decide +kernel
theorem d16_28 : decode jdk_35_method_24_code 28 = .ok (.iadd, 1) := by decide +kernel
theorem d16_29 : decode jdk_35_method_24_code 29 = .ok (.aaload, 1) := by decide +kernel
theorem d16_30 : decode jdk_35_method_24_code 30 = .ok (.areturn, 1) := by decide +kernel
theorem d17_0 : decode jdk_33_method_22_code 0 = .ok (.iload_n 0, 1) := by decide +kernel
theorem d17_1 : decode jdk_33_method_22_code 1 = .ok (.bipush (-128), 2) := by decide +kernel
theorem d17_3 : decode jdk_33_method_22_code 3 = .ok (.if_icmp .lt 20, 3) := by decide +kernel
theorem d17_6 : decode jdk_33_method_22_code 6 = .ok (.iload_n 0, 1) := by decide +kernel
theorem d17_7 : decode jdk_33_method_22_code 7 = .ok (.getstatic 191, 3) := by decide +kernel
theorem d17_10 : decode jdk_33_method_22_code 10 = .ok (.if_icmp .gt 13, 3) := by decide +kernel
theorem d17_13 : decode jdk_33_method_22_code 13 = .ok (.getstatic 195, 3) := by decide +kernel
theorem d17_16 : decode jdk_33_method_22_code 16 = .ok (.iload_n 0, 1) := by decide +kernel
theorem d17_17 : decode jdk_33_method_22_code 17 = .ok (.sipush 128, 3) := by decide +kernel
theorem d17_20 : decode jdk_33_method_22_code 20 = .ok (.iadd, 1) := by decide +kernel
theorem d17_21 : decode jdk_33_method_22_code 21 = .ok (.aaload, 1) := by decide +kernel
theorem d17_22 : decode jdk_33_method_22_code 22 = .ok (.areturn, 1) := by decide +kernel
theorem pn_java_lang_Integer : plainName "java/lang/Integer" = true := by first | (simp [plainName, overriddenIn]; done) | decide +kernel
theorem d18_0 : decode jdk_35_method_31_code 0 = .ok (.aload_n 0, 1) := by decide +kernel
theorem d18_1 : decode jdk_35_method_31_code 1 = .ok (.getfield 273, 3) := by decide +kernel
theorem d18_4 : decode jdk_35_method_31_code 4 = .ok (.lreturn, 1) := by decide +kernel
theorem d19_0 : decode jdk_33_method_27_code 0 = .ok (.aload_n 0, 1) := by decide +kernel
theorem d19_1 : decode jdk_33_method_27_code 1 = .ok (.getfield 205, 3) := by decide +kernel
theorem d19_4 : decode jdk_33_method_27_code 4 = .ok (.ireturn, 1) := by decide +kernel
theorem d20_0 : decode prog_8_method_1_code 0 = .ok (.aload_n 0, 1) := by decide +kernel
theorem d20_1 : decode prog_8_method_1_code 1 = .ok (.invokespecial 1, 3) := by decide +kernel
theorem d20_4 : decode prog_8_method_1_code 4 = .ok (.aload_n 0, 1) := by decide +kernel
theorem d20_5 : decode prog_8_method_1_code 5 = .ok (.aload_n 1, 1) := by decide +kernel
theorem d20_6 : decode prog_8_method_1_code 6 = .ok (.putfield 7, 3) := by decide +kernel
theorem d20_9 : decode prog_8_method_1_code 9 = .ok (.aload_n 0, 1) := by decide +kernel
theorem d20_10 : decode prog_8_method_1_code 10 = .ok (.lload_n 2, 1) := by decide +kernel
theorem d20_11 : decode prog_8_method_1_code 11 = .ok (.putfield 13, 3) := by decide +kernel
theorem d20_14 : decode prog_8_method_1_code 14 = .ok (.aload_n 0, 1) := by decide +kernel
theorem d20_15 : decode prog_8_method_1_code 15 = .ok (.aload 4, 2) := by decide +kernel
theorem d20_17 : decode prog_8_method_1_code 17 = .ok (.putfield 17, 3) := by decide +kernel
theorem d20_20 : decode prog_8_method_1_code 20 = .ok (.aload_n 0, 1) := by decide +kernel
theorem d20_21 : decode prog_8_method_1_code 21 = .ok (.aload 5, 2) := by decide +kernel
theorem d20_23 : decode prog_8_method_1_code 23 = .ok (.putfield 21, 3) := by decide +kernel
theorem d20_26 : decode prog_8_method_1_code 26 = .ok (.aload_n 0, 1) := by decide +kernel
theorem d20_27 : decode prog_8_method_1_code 27 = .ok (.aload 6, 2) := by decide +kernel
theorem d20_29 : decode prog_8_method_1_code 29 = .ok (.putfield 25, 3) := by decide +kernel
theorem d20_32 : decode prog_8_method_1_code 32 = .ok (.aload_n 0, 1) := by decide +kernel
theorem d20_33 : decode prog_8_method_1_code 33 = .ok (.aload 7, 2) := by decide +kernel
theorem d20_35 : decode prog_8_method_1_code 35 = .ok (.putfield 28, 3) := by decide +kernel
theorem d20_38 : decode prog_8_method_1_code 38 = .ok (.aload_n 0, 1) := by decide +kernel
theorem d20_39 : decode prog_8_method_1_code 39 = .ok (.aload 8, 2) := by decide +kernel
theorem d20_41 : decode prog_8_method_1_code 41 = .ok (.putfield 32, 3) := by decide +kernel
theorem d20_44 : decode prog_8_method_1_code 44 = .ok (.aload_n 0, 1) := by decide +kernel
theorem d20_45 : decode prog_8_method_1_code 45 = .ok (.iload 9, 2) := by decide +kernel
theorem d20_47 : decode prog_8_method_1_code 47 = .ok (.putfield 36, 3) := by decide +kernel
theorem d20_50 : decode prog_8_method_1_code 50 = .ok (.aload_n 0, 1) := by decide +kernel
theorem d20_51 : decode prog_8_method_1_code 51 = .ok (.aload 10, 2) := by decide +kernel
theorem d20_53 : decode prog_8_method_1_code 53 = .ok (.putfield 40, 3) := by decide +kernel
theorem d20_56 : decode prog_8_method_1_code 56 = .ok (.return_, 1) := by decide +kernel
theorem pn_com_example_delayed_task_dispatch_delayedtaskdispatch_model_Task : plainName "com/example/delayed_task_dispatch/delayedtaskdispatch/model/Task" = true := by first | (simp [plainName, overriddenIn]; done) | decide +kernel
theorem d21_0 : decode prog_8_method_2_code 0 = .ok (.new 8, 3) := by decide +kernel
theorem d21_3 : decode prog_8_method_2_code 3 = .ok (.dup, 1) := by decide +kernel
theorem d21_4 : decode prog_8_method_2_code 4 = .ok (.aload_n 0, 1) := by decide +kernel
theorem d21_5 : decode prog_8_method_2_code 5 = .ok (.lload_n 1, 1) := by decide +kernel
theorem d21_6 : decode prog_8_method_2_code 6 = .ok (.aload_n 3, 1) := by decide +kernel
theorem d21_7 : decode prog_8_method_2_code 7 = .ok (.aload 4, 2) := by decide +kernel
theorem d21_9 : decode prog_8_method_2_code 9 = .ok (.aload 5, 2) := by decide +kernel
theorem d21_11 : decode prog_8_method_2_code 11 = .ok (.aload 6, 2) := by decide +kernel
theorem d21_13 : decode prog_8_method_2_code 13 = .ok (.getstatic 43, 3) := by decide +kernel
theorem d21_16 : decode prog_8_method_2_code 16 = .ok (.iconst 0, 1) := by decide +kernel
theorem d21_17 : decode prog_8_method_2_code 17 = .ok (.aconst_null, 1) := by decide +kernel
theorem d21_18 : decode prog_8_method_2_code 18 = .ok (.invokespecial 48, 3) := by decide +kernel
theorem pd__28_Ljava_2f_lang_2f_String_3b_JLjava_2f_lang_2f_Long_3b_Lcom_2f_example_2f_delayed_task_dispatch_2f_delayedtaskdispatch_2f_model_2f_Target_3b_Ljava_2f_lang_2f_String_3b_Ljava_2f_lang_2f_Integer_3b_Lcom_2f_example_2f_delayed_task_dispatch_2f_delayedtaskdispatch_2f_model_2f_TaskState_3b_ILjava_2f_lang_2f_String_3b__29_V : parseMethodDescriptor "(Ljava/lang/String;JLjava/lang/Long;Lcom/example/delayed_task_dispatch/delayedtaskdispatch/model/Target;Ljava/lang/String;Ljava/lang/Integer;Lcom/example/delayed_task_dispatch/delayedtaskdispatch/model/TaskState;ILjava/lang/String;)V" = some ⟨[(.object "java/lang/String"), .long, (.object "java/lang/Long"), (.object "com/example/delayed_task_dispatch/delayedtaskdispatch/model/Target"), (.object "java/lang/String"), (.object "java/lang/Integer"), (.object "com/example/delayed_task_dispatch/delayedtaskdispatch/model/TaskState"), .int, (.object "java/lang/String")], none⟩ := by decide +kernel
theorem d21_21 : decode prog_8_method_2_code 21 = .ok (.areturn, 1) := by decide +kernel
theorem d22_0 : decode prog_8_method_7_code 0 = .ok (.aload_n 0, 1) := by decide +kernel
theorem d22_1 : decode prog_8_method_7_code 1 = .ok (.getfield 7, 3) := by decide +kernel
theorem d22_4 : decode prog_8_method_7_code 4 = .ok (.areturn, 1) := by decide +kernel
theorem d23_0 : decode prog_8_method_8_code 0 = .ok (.aload_n 0, 1) := by decide +kernel
theorem d23_1 : decode prog_8_method_8_code 1 = .ok (.getfield 13, 3) := by decide +kernel
theorem d23_4 : decode prog_8_method_8_code 4 = .ok (.lreturn, 1) := by decide +kernel
theorem d24_0 : decode prog_8_method_9_code 0 = .ok (.aload_n 0, 1) := by decide +kernel
theorem d24_1 : decode prog_8_method_9_code 1 = .ok (.getfield 17, 3) := by decide +kernel
theorem d24_4 : decode prog_8_method_9_code 4 = .ok (.areturn, 1) := by decide +kernel
theorem d25_0 : decode prog_8_method_10_code 0 = .ok (.aload_n 0, 1) := by decide +kernel
theorem d25_1 : decode prog_8_method_10_code 1 = .ok (.getfield 21, 3) := by decide +kernel
theorem d25_4 : decode prog_8_method_10_code 4 = .ok (.areturn, 1) := by decide +kernel
theorem d26_0 : decode prog_8_method_11_code 0 = .ok (.aload_n 0, 1) := by decide +kernel
theorem d26_1 : decode prog_8_method_11_code 1 = .ok (.getfield 25, 3) := by decide +kernel
theorem d26_4 : decode prog_8_method_11_code 4 = .ok (.areturn, 1) := by decide +kernel
theorem d27_0 : decode prog_8_method_12_code 0 = .ok (.aload_n 0, 1) := by decide +kernel
theorem d27_1 : decode prog_8_method_12_code 1 = .ok (.getfield 28, 3) := by decide +kernel
theorem d27_4 : decode prog_8_method_12_code 4 = .ok (.areturn, 1) := by decide +kernel
theorem d28_0 : decode prog_8_method_13_code 0 = .ok (.aload_n 0, 1) := by decide +kernel
theorem d28_1 : decode prog_8_method_13_code 1 = .ok (.getfield 32, 3) := by decide +kernel
theorem d28_4 : decode prog_8_method_13_code 4 = .ok (.areturn, 1) := by decide +kernel
theorem d29_0 : decode prog_8_method_14_code 0 = .ok (.aload_n 0, 1) := by decide +kernel
theorem d29_1 : decode prog_8_method_14_code 1 = .ok (.getfield 36, 3) := by decide +kernel
theorem d29_4 : decode prog_8_method_14_code 4 = .ok (.ireturn, 1) := by decide +kernel
theorem d30_0 : decode prog_8_method_15_code 0 = .ok (.aload_n 0, 1) := by decide +kernel
theorem d30_1 : decode prog_8_method_15_code 1 = .ok (.getfield 40, 3) := by decide +kernel
theorem d30_4 : decode prog_8_method_15_code 4 = .ok (.areturn, 1) := by decide +kernel
theorem d31_0 : decode method_2_code 0 = .ok (.iload_n 0, 1) := by decide +kernel
theorem d31_1 : decode method_2_code 1 = .ok (.sipush 255, 3) := by decide +kernel
theorem d31_4 : decode method_2_code 4 = .ok (.iand, 1) := by decide +kernel
theorem d31_5 : decode method_2_code 5 = .ok (.i2c, 1) := by decide +kernel
theorem d31_6 : decode method_2_code 6 = .ok (.istore_n 2, 1) := by decide +kernel
theorem d31_7 : decode method_2_code 7 = .ok (.iload_n 0, 1) := by decide +kernel
theorem d31_8 : decode method_2_code 8 = .ok (.bipush 8, 2) := by decide +kernel
theorem d31_10 : decode method_2_code 10 = .ok (.iushr, 1) := by decide +kernel
theorem d31_11 : decode method_2_code 11 = .ok (.sipush 255, 3) := by decide +kernel
theorem d31_14 : decode method_2_code 14 = .ok (.iand, 1) := by decide +kernel
theorem d31_15 : decode method_2_code 15 = .ok (.i2c, 1) := by decide +kernel
theorem d31_16 : decode method_2_code 16 = .ok (.istore_n 3, 1) := by decide +kernel
theorem d31_17 : decode method_2_code 17 = .ok (.iload_n 1, 1) := by decide +kernel
theorem d31_18 : decode method_2_code 18 = .ok (.ifCond .ne 14, 3) := by decide +kernel
theorem d31_32 : decode method_2_code 32 = .ok (.iload_n 1, 1) := by decide +kernel
theorem d31_33 : decode method_2_code 33 = .ok (.iconst 1, 1) := by decide +kernel
theorem d31_34 : decode method_2_code 34 = .ok (.if_icmp .ne 18, 3) := by decide +kernel
theorem d31_52 : decode method_2_code 52 = .ok (.new 7, 3) := by decide +kernel
theorem d31_55 : decode method_2_code 55 = .ok (.dup, 1) := by decide +kernel
theorem d31_56 : decode method_2_code 56 = .ok (.iconst 2, 1) := by decide +kernel
theorem d31_57 : decode method_2_code 57 = .ok (.newarray .char, 2) := by decide +kernel
theorem d31_59 : decode method_2_code 59 = .ok (.dup, 1) := by decide +kernel
theorem d31_60 : decode method_2_code 60 = .ok (.iconst 0, 1) := by decide +kernel
theorem d31_61 : decode method_2_code 61 = .ok (.iload_n 2, 1) := by decide +kernel
theorem d31_62 : decode method_2_code 62 = .ok (.castore, 1) := by decide +kernel
theorem d31_63 : decode method_2_code 63 = .ok (.dup, 1) := by decide +kernel
theorem d31_64 : decode method_2_code 64 = .ok (.iconst 1, 1) := by decide +kernel
theorem d31_65 : decode method_2_code 65 = .ok (.iload_n 3, 1) := by decide +kernel
theorem d31_66 : decode method_2_code 66 = .ok (.castore, 1) := by decide +kernel
theorem d31_67 : decode method_2_code 67 = .ok (.invokespecial 9, 3) := by decide +kernel
theorem pd__28__5b_C_29_V : parseMethodDescriptor "([C)V" = some ⟨[(.array .char)], none⟩ := by decide +kernel
theorem d31_70 : decode method_2_code 70 = .ok (.areturn, 1) := by decide +kernel
theorem d31_37 : decode method_2_code 37 = .ok (.new 7, 3) := by decide +kernel
theorem d31_40 : decode method_2_code 40 = .ok (.dup, 1) := by decide +kernel
theorem d31_41 : decode method_2_code 41 = .ok (.iconst 1, 1) := by decide +kernel
theorem d31_42 : decode method_2_code 42 = .ok (.newarray .char, 2) := by decide +kernel
theorem d31_44 : decode method_2_code 44 = .ok (.dup, 1) := by decide +kernel
theorem d31_45 : decode method_2_code 45 = .ok (.iconst 0, 1) := by decide +kernel
theorem d31_46 : decode method_2_code 46 = .ok (.iload_n 2, 1) := by decide +kernel
theorem d31_47 : decode method_2_code 47 = .ok (.castore, 1) := by decide +kernel
theorem d31_48 : decode method_2_code 48 = .ok (.invokespecial 9, 3) := by decide +kernel
theorem d31_51 : decode method_2_code 51 = .ok (.areturn, 1) := by decide +kernel
theorem d31_21 : decode method_2_code 21 = .ok (.new 7, 3) := by decide +kernel
theorem d31_24 : decode method_2_code 24 = .ok (.dup, 1) := by decide +kernel
theorem d31_25 : decode method_2_code 25 = .ok (.iconst 0, 1) := by decide +kernel
theorem d31_26 : decode method_2_code 26 = .ok (.newarray .char, 2) := by decide +kernel
theorem d31_28 : decode method_2_code 28 = .ok (.invokespecial 9, 3) := by decide +kernel
theorem d31_31 : decode method_2_code 31 = .ok (.areturn, 1) := by decide +kernel
theorem pn_com_example_delayed_task_dispatch_delayedtaskdispatch_model_TaskPendingPinLaw : plainName "com/example/delayed_task_dispatch/delayedtaskdispatch/model/TaskPendingPinLaw" = true := by first | (simp [plainName, overriddenIn]; done) | decide +kernel
theorem pd__28_II_29_Ljava_2f_lang_2f_String_3b_ : parseMethodDescriptor "(II)Ljava/lang/String;" = some ⟨[.int, .int], some (.object "java/lang/String")⟩ := by decide +kernel
theorem pd__28_C_29_Ljava_2f_lang_2f_String_3b_ : parseMethodDescriptor "(C)Ljava/lang/String;" = some ⟨[.char], some (.object "java/lang/String")⟩ := by decide +kernel
theorem pd__28_Ljava_2f_lang_2f_String_3b_JLjava_2f_lang_2f_Long_3b_Lcom_2f_example_2f_delayed_task_dispatch_2f_delayedtaskdispatch_2f_model_2f_Target_3b_Ljava_2f_lang_2f_String_3b_Ljava_2f_lang_2f_Integer_3b__29_Lcom_2f_example_2f_delayed_task_dispatch_2f_delayedtaskdispatch_2f_model_2f_Task_3b_ : parseMethodDescriptor "(Ljava/lang/String;JLjava/lang/Long;Lcom/example/delayed_task_dispatch/delayedtaskdispatch/model/Target;Ljava/lang/String;Ljava/lang/Integer;)Lcom/example/delayed_task_dispatch/delayedtaskdispatch/model/Task;" = some ⟨[(.object "java/lang/String"), .long, (.object "java/lang/Long"), (.object "com/example/delayed_task_dispatch/delayedtaskdispatch/model/Target"), (.object "java/lang/String"), (.object "java/lang/Integer")], some (.object "com/example/delayed_task_dispatch/delayedtaskdispatch/model/Task")⟩ := by decide +kernel
theorem pd__28__29_Ljava_2f_lang_2f_String_3b_ : parseMethodDescriptor "()Ljava/lang/String;" = some ⟨[], some (.object "java/lang/String")⟩ := by decide +kernel
theorem pd__28_Ljava_2f_lang_2f_Object_3b__29_Z : parseMethodDescriptor "(Ljava/lang/Object;)Z" = some ⟨[(.object "java/lang/Object")], some .boolean⟩ := by decide +kernel
theorem pd__28__29_J : parseMethodDescriptor "()J" = some ⟨[], some .long⟩ := by decide +kernel
theorem pd__28__29_Lcom_2f_example_2f_delayed_task_dispatch_2f_delayedtaskdispatch_2f_model_2f_Target_3b_ : parseMethodDescriptor "()Lcom/example/delayed_task_dispatch/delayedtaskdispatch/model/Target;" = some ⟨[], some (.object "com/example/delayed_task_dispatch/delayedtaskdispatch/model/Target")⟩ := by decide +kernel
theorem pd__28__29_Lcom_2f_example_2f_delayed_task_dispatch_2f_delayedtaskdispatch_2f_model_2f_TaskState_3b_ : parseMethodDescriptor "()Lcom/example/delayed_task_dispatch/delayedtaskdispatch/model/TaskState;" = some ⟨[], some (.object "com/example/delayed_task_dispatch/delayedtaskdispatch/model/TaskState")⟩ := by decide +kernel
theorem pd__28__29_I : parseMethodDescriptor "()I" = some ⟨[], some .int⟩ := by decide +kernel
theorem pd__28__29_Ljava_2f_lang_2f_Long_3b_ : parseMethodDescriptor "()Ljava/lang/Long;" = some ⟨[], some (.object "java/lang/Long")⟩ := by decide +kernel
theorem pd__28__29_Ljava_2f_lang_2f_Integer_3b_ : parseMethodDescriptor "()Ljava/lang/Integer;" = some ⟨[], some (.object "java/lang/Integer")⟩ := by decide +kernel
theorem pd__28_I_29_Ljava_2f_lang_2f_Integer_3b_ : parseMethodDescriptor "(I)Ljava/lang/Integer;" = some ⟨[.int], some (.object "java/lang/Integer")⟩ := by decide +kernel
theorem pd__28_Ljava_2f_lang_2f_String_3b__29_Lcom_2f_example_2f_delayed_task_dispatch_2f_delayedtaskdispatch_2f_model_2f_Target_3b_ : parseMethodDescriptor "(Ljava/lang/String;)Lcom/example/delayed_task_dispatch/delayedtaskdispatch/model/Target;" = some ⟨[(.object "java/lang/String")], some (.object "com/example/delayed_task_dispatch/delayedtaskdispatch/model/Target")⟩ := by decide +kernel
theorem pd__28_J_29_Ljava_2f_lang_2f_Long_3b_ : parseMethodDescriptor "(J)Ljava/lang/Long;" = some ⟨[.long], some (.object "java/lang/Long")⟩ := by decide +kernel
set_option maxRecDepth 65536 in
set_option maxHeartbeats 40000000 in
theorem c_recinit {kS : Nat} {kT : Nat} {kP : Nat} {ia : Nat} {ic : Cell} {la : Nat} {lc : Cell} (B : Base Z a0 kS kT kP ia ic la lc) {h : Heap} {a : Nat} : Con l Z a0 EL it n0 (⟨"java/lang/Record", "<init>", "()V"⟩ : MethodName) 2 24 0 0 #[.ref a] h [] (fun v h' => v = none ∧ h = h') := by
  refine Met.con (bytes := jdk_30_method_1_code) (maxL := 1) (ret := none) (rm := ({ frames := 1, cells := 0, slots := 0, locals := 12 } : Room)) (Met.of (own := "java/lang/Record") (nm := "<init>") #[.val (.ref a)] (ew B) rfl rfl (plainFor_of_name pn_java_lang_Record) (fun m => by first | (simp [entryFrame, mkF, argsToLocals, Value.category]; done) | rfl) fun K C => ?_) (B.1 _ (List.mem_of_getElem? (i := 57) rfl)) (B.1 _ (List.mem_of_getElem? (i := 56) rfl)) rfl rfl rfl rfl
  refine C.aloadN d0_0 rfl rfl ?_
  refine C.initO 0 (B.1 _ (List.mem_of_getElem? (i := 58) rfl)) (B.1 _ (List.mem_of_getElem? (i := 16) rfl)) (B.1 _ (List.mem_of_getElem? (i := 17) rfl)) d0_1 rfl rfl (by decide) (by decide) ?_
  show C.W h [] 0 0 (mkF K.m 4 #[.val (.ref a)] [])
  exact C.return_ rfl d0_4 (by decide) (by decide) ⟨rfl, rfl⟩
set_option maxRecDepth 65536 in
set_option maxHeartbeats 40000000 in
theorem c_cfal {kS : Nat} {kT : Nat} {kP : Nat} {ia : Nat} {ic : Cell} {la : Nat} {lc : Cell} (B : Base Z a0 kS kT kP ia ic la lc) {h : Heap} {d : Nat} {n : Int32} {vs : List Value} (Ad : Ary Z h d .byte vs) (hn : n.toInt = vs.length) : Con l Z a0 EL it n0 (⟨"java/lang/StringUTF16", "coderFromArrayLen", "([BI)B"⟩ : MethodName) 1 13 0 0 #[.ref d, .int n] h [] (fun v h' => v = some (.int 0) ∧ h = h') := by
  refine Met.con (bytes := jdk_52_method_15_code) (maxL := 2) (ret := (some .byte)) (rm := ({ frames := 0, cells := 0, slots := 0, locals := 0 } : Room)) (Met.of (own := "java/lang/StringUTF16") (nm := "coderFromArrayLen") #[.val (.ref d), .val (.int n)] (ew B) rfl rfl (plainFor_of_name pn_java_lang_StringUTF16) (fun m => by first | (simp [entryFrame, mkF, argsToLocals, Value.category]; done) | rfl) fun K C => ?_) (B.1 _ (List.mem_of_getElem? (i := 159) rfl)) (B.1 _ (List.mem_of_getElem? (i := 152) rfl)) rfl rfl rfl rfl
  refine C.iloadN d1_0 rfl ?_
  refine C.aloadN d1_1 rfl rfl ?_
  refine C.alen (n := n) Ad hn d1_2 ?_
  refine C.isub d1_3 ?_
  refine C.bipush (v := (31 : Int32)) d1_4 (by first | rfl | decide) ?_
  refine C.iushr d1_6 ?_
  refine C.i2b d1_7 ?_
  refine C.topI (show ((n - n).toUInt32 >>> ((31 : Int32) &&& 31).toUInt32).toInt32.toInt8.toInt32 = (0 : Int32) by rw [Int32.sub_self]; decide) ?_
  exact C.ireturn (t := .byte) rfl (by simp) rfl d1_8 (by decide) (by decide) ⟨rfl, rfl⟩
set_option maxRecDepth 65536 in
set_option maxHeartbeats 40000000 in
theorem c_cmp5 {kS : Nat} {kT : Nat} {kP : Nat} {ia : Nat} {ic : Cell} {la : Nat} {lc : Cell} (B : Base Z a0 kS kT kP ia ic la lc) {h : Heap} {b d : Nat} {n : Int32} {cs : List Int32} (Ab : Ary Z h b .char (cs.map Value.int)) (Ad : Ary Z h d .byte (List.replicate cs.length (.int 0))) (nbd : b ≠ d) (hn : n.toInt = cs.length) (hp : ∀ c ∈ cs, 0 ≤ c.toInt ∧ c.toInt < 256) : Con l Z a0 EL it n0 (⟨"java/lang/StringUTF16", "compress", "([CI[BII)I"⟩ : MethodName) 1 18 0 0 #[.ref b, .int (0 : Int32), .ref d, .int (0 : Int32), .int n] h [d] (fun v h' => v = some (.int n) ∧ Ary Z h' d .byte (cs.map fun c => Value.int (lo8 c))) := by
  refine Met.con (bytes := jdk_52_method_21_code) (maxL := 7) (ret := (some .int)) (rm := ({ frames := 0, cells := 0, slots := 0, locals := 0 } : Room)) (Met.of (own := "java/lang/StringUTF16") (nm := "compress") #[.val (.ref b), .val (.int (0 : Int32)), .val (.ref d), .val (.int (0 : Int32)), .val (.int n), .unset, .unset] (ew B) rfl rfl (plainFor_of_name pn_java_lang_StringUTF16) (fun m => by first | (simp [entryFrame, mkF, argsToLocals, Value.category]; done) | rfl) fun K C => ?_) (B.1 _ (List.mem_of_getElem? (i := 156) rfl)) (B.1 _ (List.mem_of_getElem? (i := 152) rfl)) rfl rfl rfl rfl
  have hlen := Ab.len
  rw [List.length_map] at hlen
  have k255 : (255 : Int32).toInt = 255 := by decide
  refine C.iconst (v := (0 : Int32)) d2_0 (by first | rfl | decide) ?_
  refine C.istore #[.val (.ref b), .val (.int (0 : Int32)), .val (.ref d), .val (.int (0 : Int32)), .val (.int n), .val (.int (0 : Int32)), .unset] d2_1 rfl ?_
  suffices LOOP : ∀ (j k : Nat) (h1 : Heap) (s6 : Slot), j + k = cs.length → One s6 → Ary Z h1 b .char (cs.map Value.int) → Ary Z h1 d .byte ((cs.take k).map (fun c => Value.int (lo8 c)) ++ List.replicate j (.int 0)) → C.W h1 [d] 0 0 (mkF K.m 3 #[.val (.ref b), .val (.int (Int32.ofNat k)), .val (.ref d), .val (.int (Int32.ofNat k)), .val (.int n), .val (.int (Int32.ofNat k)), s6] []) from LOOP cs.length 0 h .unset (by omega) One.u Ab Ad
  intro j
  induction j with
  | zero =>
    intro k h1 s6 hjk h6 Ab Ad
    have ek : (Int32.ofNat k).toInt = k := ofNat_int (by omega)
    refine C.iload d2_3 rfl ?_
    refine C.iload d2_5 rfl ?_
    refine C.icmp_ge 44 d2_7 (by decide) (by decide) (fun q1 => ?_) (fun q1 => ?_)
    · refine C.iload d2_44 rfl ?_
      have ek2 : cs.take k = cs := List.take_of_length_le (by omega)
      rw [ek2] at Ad
      exact C.ireturn (t := .int) rfl (by simp) rfl d2_46 (by decide) (by decide) ⟨rfl, by simpa using Ad⟩
    · exfalso; omega
  | succ j ih =>
    intro k h1 s6 hjk h6 Ab Ad
    have ek : (Int32.ofNat k).toInt = k := ofNat_int (by omega)
    refine C.iload d2_3 rfl ?_
    refine C.iload d2_5 rfl ?_
    refine C.icmp_ge 44 d2_7 (by decide) (by decide) (fun q2 => ?_) (fun q2 => ?_)
    · exfalso; omega
    · obtain ⟨c, hc⟩ : ∃ c, cs[k]? = some c := ⟨_, List.getElem?_eq_getElem (by omega)⟩
      have hcb := hp c (List.mem_of_getElem? hc)
      refine C.aloadN d2_10 rfl rfl ?_
      refine C.iloadN d2_11 rfl ?_
      refine C.caload (x := c) k Ab ek (by simp [hc]) d2_12 ?_
      refine C.istore #[.val (.ref b), .val (.int (Int32.ofNat k)), .val (.ref d), .val (.int (Int32.ofNat k)), .val (.int n), .val (.int (Int32.ofNat k)), .val (.int c)] d2_13 (XS.store1 rfl h6 rfl) ?_
      refine C.iload d2_15 rfl ?_
      refine C.sipush (v := (255 : Int32)) d2_17 (by first | rfl | decide) ?_
      refine C.icmp_le 26 d2_20 (by decide) (by decide) (fun q3 => ?_) (fun q3 => ?_)
      · refine C.aloadN d2_26 rfl rfl ?_
        refine C.iloadN d2_27 rfl ?_
        refine C.iload d2_28 rfl ?_
        refine C.i2b d2_30 ?_
        refine C.bastore k Ad ek (by simp; omega) d2_31 (List.mem_of_getElem? (i := 0) rfl) fun h4 z4 K4 Aw4 => ?_
        show C.W h4 [d] 0 0 (mkF K.m 32 #[.val (.ref b), .val (.int (Int32.ofNat k)), .val (.ref d), .val (.int (Int32.ofNat k)), .val (.int n), .val (.int (Int32.ofNat k)), .val (.int c)] [])
        have A4' : Ary Z h4 d .byte ((cs.take (k + 1)).map (fun c => Value.int (lo8 c)) ++ List.replicate j (.int 0)) := by
          rw [lo8_lo8] at Aw4
          rwa [← fill_step (fun c => Value.int (lo8 c)) (.int 0) hc]
        refine C.iinc (z := (1 : Int32)) #[.val (.ref b), .val (.int ((Int32.ofNat k) + (1 : Int32))), .val (.ref d), .val (.int (Int32.ofNat k)), .val (.int n), .val (.int (Int32.ofNat k)), .val (.int c)] d2_32 rfl (by first | rfl | decide) rfl ?_
        refine C.iinc (z := (1 : Int32)) #[.val (.ref b), .val (.int ((Int32.ofNat k) + (1 : Int32))), .val (.ref d), .val (.int ((Int32.ofNat k) + (1 : Int32))), .val (.int n), .val (.int (Int32.ofNat k)), .val (.int c)] d2_35 rfl (by first | rfl | decide) rfl ?_
        refine C.iinc (z := (1 : Int32)) #[.val (.ref b), .val (.int ((Int32.ofNat k) + (1 : Int32))), .val (.ref d), .val (.int ((Int32.ofNat k) + (1 : Int32))), .val (.int n), .val (.int ((Int32.ofNat k) + (1 : Int32))), .val (.int c)] d2_38 rfl (by first | rfl | decide) rfl ?_
        refine C.goto 3 d2_41 (by decide) (by decide) ?_
        rw [ofNat_succ]
        exact ih (k + 1) h4 _ (by omega) (One.val rfl) (Ab.keep K4 (ninS nbd nin0)) A4'
      · exfalso; omega
set_option maxRecDepth 65536 in
set_option maxHeartbeats 40000000 in
theorem c_cmp3 {kS : Nat} {kT : Nat} {kP : Nat} {ia : Nat} {ic : Cell} {la : Nat} {lc : Cell} (B : Base Z a0 kS kT kP ia ic la lc) {h : Heap} {b : Nat} {n : Int32} {cs : List Int32} (Ab : Ary Z h b .char (cs.map Value.int)) (hn : n.toInt = cs.length) (hc : cs.length ≤ 2) (hp : ∀ c ∈ cs, 0 ≤ c.toInt ∧ c.toInt < 256) : Con l Z a0 EL it n0 (⟨"java/lang/StringUTF16", "compress", "([CII)[B"⟩ : MethodName) 2 35 1 2 #[.ref b, .int (0 : Int32), .int n] h [] (fun v h' => ∃ d : Nat, v = some (.ref d) ∧ h.size ≤ d ∧ d < h'.size ∧ Ary Z h' d .byte (cs.map fun c => Value.int (lo8 c))) := by
  refine Met.con (bytes := jdk_52_method_16_code) (maxL := 6) (ret := (some (.array .byte))) (rm := ({ frames := 1, cells := 1, slots := 2, locals := 18 } : Room)) (Met.of (own := "java/lang/StringUTF16") (nm := "compress") #[.val (.ref b), .val (.int (0 : Int32)), .val (.int n), .unset, .unset, .unset] (ew B) rfl rfl (plainFor_of_name pn_java_lang_StringUTF16) (fun m => by first | (simp [entryFrame, mkF, argsToLocals, Value.category]; done) | rfl) fun K C => ?_) (B.1 _ (List.mem_of_getElem? (i := 153) rfl)) (B.1 _ (List.mem_of_getElem? (i := 152) rfl)) rfl rfl rfl rfl
  have lb := Ab.lt
  refine C.iloadN d3_0 rfl ?_
  refine C.newarr cs.length 2 (B.1 _ (List.mem_of_getElem? (i := 19) rfl)) d3_1 hn hc (by decide) (by decide) (by decide) fun h1 a2 g1 z1 o1 K1 An1 => ?_
  show C.W h1 [a2] 1 2 (mkF K.m 3 #[.val (.ref b), .val (.int (0 : Int32)), .val (.int n), .unset, .unset, .unset] [.ref a2])
  refine C.astoreN #[.val (.ref b), .val (.int (0 : Int32)), .val (.int n), .val (.ref a2), .unset, .unset] d3_3 rfl rfl ?_
  refine C.aloadN d3_4 rfl rfl ?_
  refine C.iloadN d3_5 rfl ?_
  refine C.aloadN d3_6 rfl rfl ?_
  refine C.iconst (v := (0 : Int32)) d3_7 (by first | rfl | decide) ?_
  refine C.iloadN d3_8 rfl ?_
  have Ab_3 := (Ab.keep K1 nin0)
  refine C.callS [.ref b, .int (0 : Int32), .ref a2, .int (0 : Int32), .int n] [] 0 (B.1 _ (List.mem_of_getElem? (i := 154) rfl)) (B.1 _ (List.mem_of_getElem? (i := 155) rfl)) (B.1 _ (List.mem_of_getElem? (i := 152) rfl)) (B.1 _ (List.mem_of_getElem? (i := 156) rfl)) (by decide) pd__28__5b_CI_5b_BII_29_I rfl id (c_cmp5 B Ab_3 An1 (neA (by omega)) hn hp) d3_9 rfl rfl rfl (by decide) (by decide) (by decide) (by decide) (allS (List.mem_of_getElem? (i := 0) rfl) all0) fun v4 h4 z4 K4 q4 => ?_
  obtain ⟨rfl, A4⟩ := q4
  show C.W h4 [a2] 1 2 (mkF K.m 12 #[.val (.ref b), .val (.int (0 : Int32)), .val (.int n), .val (.ref a2), .unset, .unset] [.int n])
  refine C.istore #[.val (.ref b), .val (.int (0 : Int32)), .val (.int n), .val (.ref a2), .val (.int n), .unset] d3_12 rfl ?_
  refine C.iload d3_14 rfl ?_
  refine C.iloadN d3_16 rfl ?_
  refine C.icmp_eq 57 d3_17 (by decide) (by decide) (fun q5 => ?_) (fun q5 => ?_)
  · refine C.aloadN d3_57 rfl rfl ?_
    exact C.areturn rfl rfl rfl d3_58 (by decide) (by decide) ⟨a2, rfl, by omega, by omega, A4⟩
  · exfalso; exact absurd rfl q5
set_option maxRecDepth 65536 in
set_option maxHeartbeats 40000000 in
theorem c_init4 {kS : Nat} {kT : Nat} {kP : Nat} {ia : Nat} {ic : Cell} {la : Nat} {lc : Cell} (B : Base Z a0 kS kT kP ia ic la lc) (hit : it) {h : Heap} {x b : Nat} {n : Int32} {cs : List Int32} {v0 c0 : Value} (Ex : Exa Z h x "java/lang/String") (Fv : Fld Z h x "java/lang/String" "value" "[B" v0) (Fc : Fld Z h x "java/lang/String" "coder" "B" c0) (Ab : Ary Z h b .char (cs.map Value.int)) (hn : n.toInt = cs.length) (hc : cs.length ≤ 2) (hp : ∀ c ∈ cs, 0 ≤ c.toInt ∧ c.toInt < 256) : Con l Z a0 EL it n0 (⟨"java/lang/String", "<init>", "([CIILjava/lang/Void;)V"⟩ : MethodName) 3 52 4 8 #[.ref x, .ref b, .int (0 : Int32), .int n, .null] h [x] (fun v h' => v = none ∧ Str Z h' h'.size x cs) := by
  refine Met.con (bytes := jdk_42_method_149_code) (maxL := 6) (ret := none) (rm := ({ frames := 2, cells := 4, slots := 8, locals := 35 } : Room)) (Met.of (own := "java/lang/String") (nm := "<init>") #[.val (.ref x), .val (.ref b), .val (.int (0 : Int32)), .val (.int n), .val .null, .unset] (ew B) rfl rfl (plainFor_of_name pn_java_lang_String) (fun m => by first | (simp [entryFrame, mkF, argsToLocals, Value.category]; done) | rfl) fun K C => ?_) (B.1 _ (List.mem_of_getElem? (i := 14) rfl)) (B.1 _ (List.mem_of_getElem? (i := 6) rfl)) rfl rfl rfl rfl
  obtain ⟨zc, Sc, hzc⟩ := B.2.1
  have lx := exaLt Ex
  have lb := Ab.lt
  refine C.aloadN d4_0 rfl rfl ?_
  refine C.initO 0 (B.1 _ (List.mem_of_getElem? (i := 15) rfl)) (B.1 _ (List.mem_of_getElem? (i := 16) rfl)) (B.1 _ (List.mem_of_getElem? (i := 17) rfl)) d4_1 rfl rfl (by decide) (by decide) ?_
  show C.W h [x] 0 0 (mkF K.m 4 #[.val (.ref x), .val (.ref b), .val (.int (0 : Int32)), .val (.int n), .val .null, .unset] [])
  refine C.iloadN d4_4 rfl ?_
  refine C.ifc_ne 27 d4_5 (by decide) (by decide) (fun q1 => ?_) (fun q1 => ?_)
  · refine C.getS (B.1 _ (List.mem_of_getElem? (i := 29) rfl)) Via.refl Sc d4_27 ?_
    refine C.ifc_eq 58 d4_30 (by decide) (by decide) (fun q2 => ?_) (fun q2 => ?_)
    · exfalso; exact hzc (Int32.toInt_inj.mp q2)
    · refine C.aloadN d4_33 rfl rfl ?_
      refine C.iloadN d4_34 rfl ?_
      refine C.iloadN d4_35 rfl ?_
      refine C.callS [.ref b, .int (0 : Int32), .int n] [] 0 (B.1 _ (List.mem_of_getElem? (i := 150) rfl)) (B.1 _ (List.mem_of_getElem? (i := 151) rfl)) (B.1 _ (List.mem_of_getElem? (i := 152) rfl)) (B.1 _ (List.mem_of_getElem? (i := 153) rfl)) (by decide) pd__28__5b_CII_29__5b_B rfl id (c_cmp3 B Ab hn hc hp) d4_36 rfl rfl rfl (by decide) (by decide) (by decide) (by decide) all0 fun v3 h3 z3 K3 q3 => ?_
      obtain ⟨d3, rfl, ld3, lt3, A3⟩ := q3
      show C.W h3 [x] 1 2 (mkF K.m 39 #[.val (.ref x), .val (.ref b), .val (.int (0 : Int32)), .val (.int n), .val .null, .unset] [.ref d3])
      refine C.astore #[.val (.ref x), .val (.ref b), .val (.int (0 : Int32)), .val (.int n), .val .null, .val (.ref d3)] d4_39 rfl rfl ?_
      refine C.aloadN d4_41 rfl rfl ?_
      refine C.aload d4_42 rfl rfl ?_
      refine C.iloadN d4_44 rfl ?_
      refine C.callS [.ref d3, .int n] [.ref x] 1 (B.1 _ (List.mem_of_getElem? (i := 157) rfl)) (B.1 _ (List.mem_of_getElem? (i := 158) rfl)) (B.1 _ (List.mem_of_getElem? (i := 152) rfl)) (B.1 _ (List.mem_of_getElem? (i := 159) rfl)) (by decide) pd__28__5b_BI_29_B rfl id (c_cfal B A3 (by simpa using hn)) d4_45 rfl rfl rfl (by decide) (by decide) (by decide) (by decide) all0 fun v4 h4 z4 K4 q4 => ?_
      obtain ⟨rfl, rfl⟩ := q4
      show C.W h3 [x] 1 2 (mkF K.m 48 #[.val (.ref x), .val (.ref b), .val (.int (0 : Int32)), .val (.int n), .val .null, .val (.ref d3)] [.int (0 : Int32), .ref x])
      have Fc_5 := (Fc.keep K3 nin0)
      have Ex_6 := (Ex.keep K3)
      have Fv_7 := (Fv.keep K3 nin0)
      refine C.putF (host := "") (Or.inl (B.1 _ (List.mem_of_getElem? (i := 25) rfl))) Via.refl Fc_5 Ex_6 (Or.inr ⟨(B.1 _ (List.mem_of_getElem? (i := 21) rfl)), rfl, rfl⟩) (B.1 _ (List.mem_of_getElem? (i := 5) rfl)) (ty := .byte) (by decide) rfl rfl d4_48 (List.mem_of_getElem? (i := 0) rfl) fun h8 z8 K8 Ew8 Fw8 Gw8 => ?_
      have Fv_9 := Gw8 (slot_ne (Or.inr (B.1 _ (List.mem_of_getElem? (i := 20) rfl))) (Or.inr (B.1 _ (List.mem_of_getElem? (i := 21) rfl))) (by decide) (t := (.array .byte)) (t' := .byte) (by decide) (by decide)) Fv_7
      show C.W h8 [x] 1 2 (mkF K.m 51 #[.val (.ref x), .val (.ref b), .val (.int (0 : Int32)), .val (.int n), .val .null, .val (.ref d3)] [])
      refine C.aloadN d4_51 rfl rfl ?_
      refine C.aload d4_52 rfl rfl ?_
      refine C.putF (host := "") (Or.inl (B.1 _ (List.mem_of_getElem? (i := 24) rfl))) Via.refl Fv_9 Ew8 (Or.inr ⟨(B.1 _ (List.mem_of_getElem? (i := 20) rfl)), rfl, rfl⟩) (B.1 _ (List.mem_of_getElem? (i := 5) rfl)) (ty := (.array .byte)) (by decide) rfl rfl d4_54 (List.mem_of_getElem? (i := 0) rfl) fun h10 z10 K10 Ew10 Fw10 Gw10 => ?_
      have Fc_11 := Gw10 (slot_ne (Or.inr (B.1 _ (List.mem_of_getElem? (i := 21) rfl))) (Or.inr (B.1 _ (List.mem_of_getElem? (i := 20) rfl))) (by decide) (t := .byte) (t' := (.array .byte)) (by decide) (by decide)) Fw8
      show C.W h10 [x] 1 2 (mkF K.m 57 #[.val (.ref x), .val (.ref b), .val (.int (0 : Int32)), .val (.int n), .val .null, .val (.ref d3)] [])
      have A3_12 := ((A3.keep K8 (ninS (neA (by omega)) nin0)).keep K10 (ninS (neA (by omega)) nin0))
      exact C.return_ rfl d4_57 (by decide) (by decide) ⟨rfl, Ew10, by omega, Nat.le_refl _, d3, 0, _, by omega, Fw10, Fc_11, A3_12, Or.inl ⟨rfl, rfl, hp⟩⟩
  · have ecs : cs = [] := List.length_eq_zero_iff.mp (by omega)
    refine C.aloadN d4_8 rfl rfl ?_
    refine C.ldcC hit (vs := []) (z := 0) 0 (B.1 _ (List.mem_of_getElem? (i := 18) rfl)) (sA B) (by simp [EL]) ⟨by decide, by first | rfl | decide⟩ (by decide) (by first | rfl | decide) (by decide) (by decide) d4_9 (by decide) (by decide) fun h13 s13 t13 z13 K13 ls13 lt13 ne13 Es13 Cs13 Fs13 As13 => ?_
    have nt13_x := (ne13 x (List.mem_of_getElem? (i := 0) rfl)).2
    have ns13_x := (ne13 x (List.mem_of_getElem? (i := 0) rfl)).1
    show C.W h13 [x] 2 4 (mkF K.m 11 #[.val (.ref x), .val (.ref b), .val (.int (0 : Int32)), .val (.int n), .val .null, .unset] [.ref s13, .ref x])
    refine C.getF (host := "") (Or.inl (B.1 _ (List.mem_of_getElem? (i := 24) rfl))) Via.refl Fs13 d4_11 ?_
    have Fv_14 := (Fv.keep K13 nin0)
    have Ex_15 := (Ex.keep K13)
    have Fc_16 := (Fc.keep K13 nin0)
    refine C.putF (host := "") (Or.inl (B.1 _ (List.mem_of_getElem? (i := 24) rfl))) Via.refl Fv_14 Ex_15 (Or.inr ⟨(B.1 _ (List.mem_of_getElem? (i := 20) rfl)), rfl, rfl⟩) (B.1 _ (List.mem_of_getElem? (i := 5) rfl)) (ty := (.array .byte)) (by decide) rfl rfl d4_14 (List.mem_of_getElem? (i := 0) rfl) fun h17 z17 K17 Ew17 Fw17 Gw17 => ?_
    have Fc_18 := Gw17 (slot_ne (Or.inr (B.1 _ (List.mem_of_getElem? (i := 21) rfl))) (Or.inr (B.1 _ (List.mem_of_getElem? (i := 20) rfl))) (by decide) (t := .byte) (t' := (.array .byte)) (by decide) (by decide)) Fc_16
    show C.W h17 [x] 2 4 (mkF K.m 17 #[.val (.ref x), .val (.ref b), .val (.int (0 : Int32)), .val (.int n), .val .null, .unset] [])
    refine C.aloadN d4_17 rfl rfl ?_
    refine C.ldcC hit (vs := []) (z := 0) 0 (B.1 _ (List.mem_of_getElem? (i := 18) rfl)) (sA B) (by simp [EL]) ⟨by decide, by first | rfl | decide⟩ (by decide) (by first | rfl | decide) (by decide) (by decide) d4_18 (by decide) (by decide) fun h19 s19 t19 z19 K19 ls19 lt19 ne19 Es19 Cs19 Fs19 As19 => ?_
    have nt19_x := (ne19 x (List.mem_of_getElem? (i := 0) rfl)).2
    have ns19_x := (ne19 x (List.mem_of_getElem? (i := 0) rfl)).1
    show C.W h19 [x] 4 8 (mkF K.m 20 #[.val (.ref x), .val (.ref b), .val (.int (0 : Int32)), .val (.int n), .val .null, .unset] [.ref s19, .ref x])
    refine C.getF (host := "") (Or.inl (B.1 _ (List.mem_of_getElem? (i := 25) rfl))) Via.refl Cs19 d4_20 ?_
    have Fc_20 := (Fc_18.keep K19 nin0)
    have Ex_21 := (Ew17.keep K19)
    have Fv_22 := (Fw17.keep K19 nin0)
    refine C.putF (host := "") (Or.inl (B.1 _ (List.mem_of_getElem? (i := 25) rfl))) Via.refl Fc_20 Ex_21 (Or.inr ⟨(B.1 _ (List.mem_of_getElem? (i := 21) rfl)), rfl, rfl⟩) (B.1 _ (List.mem_of_getElem? (i := 5) rfl)) (ty := .byte) (by decide) rfl rfl d4_23 (List.mem_of_getElem? (i := 0) rfl) fun h23 z23 K23 Ew23 Fw23 Gw23 => ?_
    have Fv_24 := Gw23 (slot_ne (Or.inr (B.1 _ (List.mem_of_getElem? (i := 20) rfl))) (Or.inr (B.1 _ (List.mem_of_getElem? (i := 21) rfl))) (by decide) (t := (.array .byte)) (t' := .byte) (by decide) (by decide)) Fv_22
    show C.W h23 [x] 4 8 (mkF K.m 26 #[.val (.ref x), .val (.ref b), .val (.int (0 : Int32)), .val (.int n), .val .null, .unset] [])
    have As13_25 := (((As13.keep K17 (ninS (neA (by omega)) nin0)).keep K19 nin0).keep K23 (ninS (neA (by omega)) nin0))
    exact C.return_ rfl d4_26 (by decide) (by decide) ⟨rfl, Ew23, by omega, Nat.le_refl _, t13, 0, [], by omega, Fv_24, Fw23, As13_25, Or.inl ⟨rfl, by rw [ecs]; rfl, hp⟩⟩
set_option maxRecDepth 65536 in
set_option maxHeartbeats 40000000 in
theorem c_init1 {kS : Nat} {kT : Nat} {kP : Nat} {ia : Nat} {ic : Cell} {la : Nat} {lc : Cell} (B : Base Z a0 kS kT kP ia ic la lc) (hit : it) {h : Heap} {x b : Nat} {cs : List Int32} {v0 c0 : Value} (Ex : Exa Z h x "java/lang/String") (Fv : Fld Z h x "java/lang/String" "value" "[B" v0) (Fc : Fld Z h x "java/lang/String" "coder" "B" c0) (Ab : Ary Z h b .char (cs.map Value.int)) (hc : cs.length ≤ 2) (hp : ∀ c ∈ cs, 0 ≤ c.toInt ∧ c.toInt < 256) : Con l Z a0 EL it n0 (⟨"java/lang/String", "<init>", "([C)V"⟩ : MethodName) 4 65 4 8 #[.ref x, .ref b] h [x] (fun v h' => v = none ∧ Str Z h' h'.size x cs) := by
  refine Met.con (bytes := jdk_42_method_3_code) (maxL := 2) (ret := none) (rm := ({ frames := 3, cells := 4, slots := 8, locals := 52 } : Room)) (Met.of (own := "java/lang/String") (nm := "<init>") #[.val (.ref x), .val (.ref b)] (ew B) rfl rfl (plainFor_of_name pn_java_lang_String) (fun m => by first | (simp [entryFrame, mkF, argsToLocals, Value.category]; done) | rfl) fun K C => ?_) (B.1 _ (List.mem_of_getElem? (i := 10) rfl)) (B.1 _ (List.mem_of_getElem? (i := 6) rfl)) rfl rfl rfl rfl
  have hn : (Int32.ofNat cs.length).toInt = cs.length := ofNat_int (by omega)
  refine C.aloadN d5_0 rfl rfl ?_
  refine C.aloadN d5_1 rfl rfl ?_
  refine C.iconst (v := (0 : Int32)) d5_2 (by first | rfl | decide) ?_
  refine C.aloadN d5_3 rfl rfl ?_
  refine C.alen (n := (Int32.ofNat cs.length)) Ab (by simpa using hn) d5_4 ?_
  refine C.aconstNull d5_5 ?_
  refine C.callN x [.ref b, .int (0 : Int32), .int (Int32.ofNat cs.length), .null] [] 0 (B.1 _ (List.mem_of_getElem? (i := 11) rfl)) (B.1 _ (List.mem_of_getElem? (i := 12) rfl)) (B.1 _ (List.mem_of_getElem? (i := 14) rfl)) rfl (by decide) pd__28__5b_CIILjava_2f_lang_2f_Void_3b__29_V rfl id (c_init4 B hit Ex Fv Fc Ab hn hc hp) d5_6 rfl rfl rfl (by decide) (by decide) (by decide) (by decide) (allS (List.mem_of_getElem? (i := 0) rfl) all0) fun v1 h1 z1 K1 q1 => ?_
  obtain ⟨rfl, S1⟩ := q1
  show C.W h1 [x] 4 8 (mkF K.m 9 #[.val (.ref x), .val (.ref b)] [])
  exact C.return_ rfl d5_9 (by decide) (by decide) ⟨rfl, S1⟩
set_option maxRecDepth 65536 in
set_option maxHeartbeats 40000000 in
theorem c_eqself {kS : Nat} {kT : Nat} {kP : Nat} {ia : Nat} {ic : Cell} {la : Nat} {lc : Cell} (B : Base Z a0 kS kT kP ia ic la lc) {h : Heap} {x : Nat} : Con l Z a0 EL it n0 (⟨"java/lang/String", "equals", "(Ljava/lang/Object;)Z"⟩ : MethodName) 1 14 0 0 #[.ref x, .ref x] h [] (fun v h' => v = some (.int 1) ∧ h = h') := by
  refine Met.con (bytes := jdk_42_method_66_code) (maxL := 3) (ret := (some .boolean)) (rm := ({ frames := 0, cells := 0, slots := 0, locals := 0 } : Room)) (Met.of (own := "java/lang/String") (nm := "equals") #[.val (.ref x), .val (.ref x), .unset] (ew B) rfl rfl (plainFor_of_name pn_java_lang_String) (fun m => by first | (simp [entryFrame, mkF, argsToLocals, Value.category]; done) | rfl) fun K C => ?_) (B.1 _ (List.mem_of_getElem? (i := 103) rfl)) (B.1 _ (List.mem_of_getElem? (i := 6) rfl)) rfl rfl rfl rfl
  refine C.aloadN d6_0 rfl rfl ?_
  refine C.aloadN d6_1 rfl rfl ?_
  refine C.acmp 5 true d6_2 rfl rfl (by simp) (by decide) (by decide) ?_
  refine C.iconst (v := (1 : Int32)) d6_5 (by first | rfl | decide) ?_
  exact C.ireturn (t := .boolean) rfl (by simp) rfl d6_6 (by decide) (by decide) ⟨rfl, rfl⟩
set_option maxRecDepth 65536 in
set_option maxHeartbeats 40000000 in
theorem c_canenc {kS : Nat} {kT : Nat} {kP : Nat} {ia : Nat} {ic : Cell} {la : Nat} {lc : Cell} (B : Base Z a0 kS kT kP ia ic la lc) {h : Heap} {c : Int32} (hc : 0 ≤ c.toInt ∧ c.toInt < 256) : Con l Z a0 EL it n0 (⟨"java/lang/StringLatin1", "canEncode", "(C)Z"⟩ : MethodName) 1 12 0 0 #[.int c] h [] (fun v h' => v = some (.int 1) ∧ h = h') := by
  refine Met.con (bytes := jdk_43_method_3_code) (maxL := 1) (ret := (some .boolean)) (rm := ({ frames := 0, cells := 0, slots := 0, locals := 0 } : Room)) (Met.of (own := "java/lang/StringLatin1") (nm := "canEncode") #[.val (.int c)] (ew B) rfl rfl (plainFor_of_name pn_java_lang_StringLatin1) (fun m => by first | (simp [entryFrame, mkF, argsToLocals, Value.category]; done) | rfl) fun K C => ?_) (B.1 _ (List.mem_of_getElem? (i := 33) rfl)) (B.1 _ (List.mem_of_getElem? (i := 32) rfl)) rfl rfl rfl rfl
  have k255 : (255 : Int32).toInt = 255 := by decide
  refine C.iloadN d7_0 rfl ?_
  refine C.sipush (v := (255 : Int32)) d7_1 (by first | rfl | decide) ?_
  refine C.icmp_gt 11 d7_4 (by decide) (by decide) (fun q1 => ?_) (fun q1 => ?_)
  · exfalso; omega
  · refine C.iconst (v := (1 : Int32)) d7_7 (by first | rfl | decide) ?_
    refine C.goto 12 d7_8 (by decide) (by decide) ?_
    exact C.ireturn (t := .boolean) rfl (by simp) rfl d7_12 (by decide) (by decide) ⟨rfl, rfl⟩
set_option maxRecDepth 65536 in
set_option maxHeartbeats 40000000 in
theorem c_l1tob {kS : Nat} {kT : Nat} {kP : Nat} {ia : Nat} {ic : Cell} {la : Nat} {lc : Cell} (B : Base Z a0 kS kT kP ia ic la lc) {h : Heap} {c : Int32} : Con l Z a0 EL it n0 (⟨"java/lang/StringLatin1", "toBytes", "(C)[B"⟩ : MethodName) 1 12 1 1 #[.int c] h [] (fun v h' => ∃ d : Nat, v = some (.ref d) ∧ h.size ≤ d ∧ d < h'.size ∧ Ary Z h' d .byte [.int (lo8 c)]) := by
  refine Met.con (bytes := jdk_43_method_46_code) (maxL := 1) (ret := (some (.array .byte))) (rm := ({ frames := 0, cells := 1, slots := 1, locals := 0 } : Room)) (Met.of (own := "java/lang/StringLatin1") (nm := "toBytes") #[.val (.int c)] (ew B) rfl rfl (plainFor_of_name pn_java_lang_StringLatin1) (fun m => by first | (simp [entryFrame, mkF, argsToLocals, Value.category]; done) | rfl) fun K C => ?_) (B.1 _ (List.mem_of_getElem? (i := 37) rfl)) (B.1 _ (List.mem_of_getElem? (i := 32) rfl)) rfl rfl rfl rfl
  refine C.iconst (v := (1 : Int32)) d8_0 (by first | rfl | decide) ?_
  refine C.newarr 1 1 (B.1 _ (List.mem_of_getElem? (i := 19) rfl)) d8_1 (by first | rfl | decide) (by decide) (by decide) (by decide) (by decide) fun h1 a2 g1 z1 o1 K1 An1 => ?_
  have An1 : Ary Z h1 a2 .byte [.int 0] := An1
  show C.W h1 [a2] 1 1 (mkF K.m 3 #[.val (.int c)] [.ref a2])
  refine C.dup rfl d8_3 ?_
  refine C.iconst (v := (0 : Int32)) d8_4 (by first | rfl | decide) ?_
  refine C.iloadN d8_5 rfl ?_
  refine C.i2b d8_6 ?_
  refine C.bastore 0 An1 (by first | rfl | decide) (Nat.le_of_ble_eq_true rfl) d8_7 (List.mem_of_getElem? (i := 0) rfl) fun h3 z3 K3 Aw3 => ?_
  have Aw3 : Ary Z h3 a2 .byte [.int c.toInt8.toInt32.toInt8.toInt32] := Aw3
  show C.W h3 [a2] 1 1 (mkF K.m 8 #[.val (.int c)] [.ref a2])
  rw [lo8_lo8] at Aw3
  exact C.areturn rfl rfl rfl d8_8 (by decide) (by decide) ⟨a2, rfl, by omega, by omega, Aw3⟩
set_option maxRecDepth 65536 in
set_option maxHeartbeats 40000000 in
theorem c_initBB {kS : Nat} {kT : Nat} {kP : Nat} {ia : Nat} {ic : Cell} {la : Nat} {lc : Cell} (B : Base Z a0 kS kT kP ia ic la lc) {h : Heap} {x d : Nat} {cd : Int32} {v0 c0 : Value} (Ex : Exa Z h x "java/lang/String") (Fv : Fld Z h x "java/lang/String" "value" "[B" v0) (Fc : Fld Z h x "java/lang/String" "coder" "B" c0) (hcd : cd = 0 ∨ cd = 1) : Con l Z a0 EL it n0 (⟨"java/lang/String", "<init>", "([BB)V"⟩ : MethodName) 2 26 0 0 #[.ref x, .ref d, .int cd] h [x] (fun v h' => v = none ∧ Exa Z h' x "java/lang/String" ∧ Fld Z h' x "java/lang/String" "value" "[B" (.ref d) ∧ Fld Z h' x "java/lang/String" "coder" "B" (.int cd)) := by
  refine Met.con (bytes := jdk_42_method_151_code) (maxL := 3) (ret := none) (rm := ({ frames := 1, cells := 0, slots := 0, locals := 12 } : Room)) (Met.of (own := "java/lang/String") (nm := "<init>") #[.val (.ref x), .val (.ref d), .val (.int cd)] (ew B) rfl rfl (plainFor_of_name pn_java_lang_String) (fun m => by first | (simp [entryFrame, mkF, argsToLocals, Value.category]; done) | rfl) fun K C => ?_) (B.1 _ (List.mem_of_getElem? (i := 40) rfl)) (B.1 _ (List.mem_of_getElem? (i := 6) rfl)) rfl rfl rfl rfl
  refine C.aloadN d9_0 rfl rfl ?_
  refine C.initO 0 (B.1 _ (List.mem_of_getElem? (i := 15) rfl)) (B.1 _ (List.mem_of_getElem? (i := 16) rfl)) (B.1 _ (List.mem_of_getElem? (i := 17) rfl)) d9_1 rfl rfl (by decide) (by decide) ?_
  show C.W h [x] 0 0 (mkF K.m 4 #[.val (.ref x), .val (.ref d), .val (.int cd)] [])
  refine C.aloadN d9_4 rfl rfl ?_
  refine C.aloadN d9_5 rfl rfl ?_
  refine C.putF (host := "") (Or.inl (B.1 _ (List.mem_of_getElem? (i := 24) rfl))) Via.refl Fv Ex (Or.inr ⟨(B.1 _ (List.mem_of_getElem? (i := 20) rfl)), rfl, rfl⟩) (B.1 _ (List.mem_of_getElem? (i := 5) rfl)) (ty := (.array .byte)) (by decide) rfl rfl d9_6 (List.mem_of_getElem? (i := 0) rfl) fun h1 z1 K1 Ew1 Fw1 Gw1 => ?_
  have Fc_2 := Gw1 (slot_ne (Or.inr (B.1 _ (List.mem_of_getElem? (i := 21) rfl))) (Or.inr (B.1 _ (List.mem_of_getElem? (i := 20) rfl))) (by decide) (t := .byte) (t' := (.array .byte)) (by decide) (by decide)) Fc
  show C.W h1 [x] 0 0 (mkF K.m 9 #[.val (.ref x), .val (.ref d), .val (.int cd)] [])
  refine C.aloadN d9_9 rfl rfl ?_
  refine C.iloadN d9_10 rfl ?_
  refine C.putF (host := "") (Or.inl (B.1 _ (List.mem_of_getElem? (i := 25) rfl))) Via.refl Fc_2 Ew1 (Or.inr ⟨(B.1 _ (List.mem_of_getElem? (i := 21) rfl)), rfl, rfl⟩) (B.1 _ (List.mem_of_getElem? (i := 5) rfl)) (ty := .byte) (by decide) (by rcases hcd with rfl | rfl <;> rfl) (by rcases hcd with rfl | rfl <;> rfl) d9_11 (List.mem_of_getElem? (i := 0) rfl) fun h3 z3 K3 Ew3 Fw3 Gw3 => ?_
  have Fv_4 := Gw3 (slot_ne (Or.inr (B.1 _ (List.mem_of_getElem? (i := 20) rfl))) (Or.inr (B.1 _ (List.mem_of_getElem? (i := 21) rfl))) (by decide) (t := (.array .byte)) (t' := .byte) (by decide) (by decide)) Fw1
  show C.W h3 [x] 0 0 (mkF K.m 14 #[.val (.ref x), .val (.ref d), .val (.int cd)] [])
  exact C.return_ rfl d9_14 (by decide) (by decide) ⟨rfl, Ew3, Fv_4, Fw3⟩
set_option maxRecDepth 65536 in
set_option maxHeartbeats 40000000 in
theorem c_valueOf {kS : Nat} {kT : Nat} {kP : Nat} {ia : Nat} {ic : Cell} {la : Nat} {lc : Cell} (B : Base Z a0 kS kT kP ia ic la lc) {h : Heap} {c : Int32} (hc : 0 ≤ c.toInt ∧ c.toInt < 256) : Con l Z a0 EL it n0 (⟨"java/lang/String", "valueOf", "(C)Ljava/lang/String;"⟩ : MethodName) 3 39 2 5 #[.int c] h [] (fun v h' => ∃ x : Nat, v = some (.ref x) ∧ h.size ≤ x ∧ Str Z h' h'.size x [c]) := by
  refine Met.con (bytes := jdk_42_method_139_code) (maxL := 1) (ret := (some (.object "java/lang/String"))) (rm := ({ frames := 2, cells := 2, slots := 5, locals := 27 } : Room)) (Met.of (own := "java/lang/String") (nm := "valueOf") #[.val (.int c)] (ew B) rfl rfl (plainFor_of_name pn_java_lang_String) (fun m => by first | (simp [entryFrame, mkF, argsToLocals, Value.category]; done) | rfl) fun K C => ?_) (B.1 _ (List.mem_of_getElem? (i := 28) rfl)) (B.1 _ (List.mem_of_getElem? (i := 6) rfl)) rfl rfl rfl rfl
  obtain ⟨zc, Sc, hzc⟩ := B.2.1
  refine C.getS (B.1 _ (List.mem_of_getElem? (i := 29) rfl)) Via.refl Sc d10_0 ?_
  refine C.ifc_eq 26 d10_3 (by decide) (by decide) (fun q1 => ?_) (fun q1 => ?_)
  · exfalso; exact hzc (Int32.toInt_inj.mp q1)
  · refine C.iloadN d10_6 rfl ?_
    refine C.callS [.int c] [] 0 (B.1 _ (List.mem_of_getElem? (i := 30) rfl)) (B.1 _ (List.mem_of_getElem? (i := 31) rfl)) (B.1 _ (List.mem_of_getElem? (i := 32) rfl)) (B.1 _ (List.mem_of_getElem? (i := 33) rfl)) (by decide) pd__28_C_29_Z rfl id (c_canenc B hc) d10_7 rfl rfl rfl (by decide) (by decide) (by decide) (by decide) all0 fun v2 h2 z2 K2 q2 => ?_
    obtain ⟨rfl, rfl⟩ := q2
    show C.W h [] 0 0 (mkF K.m 10 #[.val (.int c)] [.int (1 : Int32)])
    refine C.ifc_eq 26 d10_10 (by decide) (by decide) (fun q3 => ?_) (fun q3 => ?_)
    · exfalso; revert q3; decide
    · refine C.new (B.1 _ (List.mem_of_getElem? (i := 34) rfl)) (B.1 _ (List.mem_of_getElem? (i := 5) rfl)) (B.1 _ (List.mem_of_getElem? (i := 6) rfl)) d10_13 (by decide) (by decide) fun h4 a5 g4 z4 o4 K4 En4 Dn4 => ?_
      show C.W h4 [a5] 1 4 (mkF K.m 16 #[.val (.int c)] [.ref a5])
      have Fv : Fld Z h4 a5 "java/lang/String" "value" "[B" (.null) := Dn4 (Or.inr (B.1 _ (List.mem_of_getElem? (i := 20) rfl))) (ty := (.array .byte)) (by decide)
      have Fc : Fld Z h4 a5 "java/lang/String" "coder" "B" (.int 0) := Dn4 (Or.inr (B.1 _ (List.mem_of_getElem? (i := 21) rfl))) (ty := .byte) (by decide)
      refine C.dup rfl d10_16 ?_
      refine C.iloadN d10_17 rfl ?_
      refine C.callS [.int c] [.ref a5, .ref a5] 2 (B.1 _ (List.mem_of_getElem? (i := 35) rfl)) (B.1 _ (List.mem_of_getElem? (i := 36) rfl)) (B.1 _ (List.mem_of_getElem? (i := 32) rfl)) (B.1 _ (List.mem_of_getElem? (i := 37) rfl)) (by decide) pd__28_C_29__5b_B rfl id (c_l1tob B (c := c)) d10_18 rfl rfl rfl (by decide) (by decide) (by decide) (by decide) all0 fun v6 h6 z6 K6 q6 => ?_
      obtain ⟨d6, rfl, ld6, lt6, A6⟩ := q6
      show C.W h6 [a5] 2 5 (mkF K.m 21 #[.val (.int c)] [.ref d6, .ref a5, .ref a5])
      refine C.iconst (v := (0 : Int32)) d10_21 (by first | rfl | decide) ?_
      have En4_7 := (En4.keep K6)
      have Fv_8 := (Fv.keep K6 nin0)
      have Fc_9 := (Fc.keep K6 nin0)
      refine C.callN a5 [.ref d6, .int (0 : Int32)] [.ref a5] 1 (B.1 _ (List.mem_of_getElem? (i := 38) rfl)) (B.1 _ (List.mem_of_getElem? (i := 39) rfl)) (B.1 _ (List.mem_of_getElem? (i := 40) rfl)) rfl (by decide) pd__28__5b_BB_29_V rfl id (c_initBB B En4_7 Fv_8 Fc_9 (Or.inl rfl)) d10_22 rfl rfl rfl (by decide) (by decide) (by decide) (by decide) (allS (List.mem_of_getElem? (i := 0) rfl) all0) fun v10 h10 z10 K10 q10 => ?_
      obtain ⟨rfl, E10, V10, C10⟩ := q10
      show C.W h10 [a5] 2 5 (mkF K.m 25 #[.val (.int c)] [.ref a5])
      have A6_11 := (A6.keep K10 (ninS (neA (by omega)) nin0))
      exact C.areturn rfl rfl rfl d10_25 (by decide) (by decide) ⟨a5, rfl, by omega, E10, by omega, Nat.le_refl _, d6, 0, _, by omega, V10, C10, A6_11, Or.inl ⟨rfl, rfl, by simpa using hc⟩⟩
set_option maxRecDepth 65536 in
set_option maxHeartbeats 40000000 in
theorem c_tinit {kS : Nat} {kT : Nat} {kP : Nat} {ia : Nat} {ic : Cell} {la : Nat} {lc : Cell} (B : Base Z a0 kS kT kP ia ic la lc) {h : Heap} {a k x : Nat} (Ea : Exa Z h a "com/example/delayed_task_dispatch/delayedtaskdispatch/model/Target") (Fk : Fld Z h a "com/example/delayed_task_dispatch/delayedtaskdispatch/model/Target" "kind" "Lcom/example/delayed_task_dispatch/delayedtaskdispatch/model/Target$Kind;" .null) (Fa : Fld Z h a "com/example/delayed_task_dispatch/delayedtaskdispatch/model/Target" "address" "Ljava/lang/String;" .null) : Con l Z a0 EL it n0 (⟨"com/example/delayed_task_dispatch/delayedtaskdispatch/model/Target", "<init>", "(Lcom/example/delayed_task_dispatch/delayedtaskdispatch/model/Target$Kind;Ljava/lang/String;)V"⟩ : MethodName) 3 38 0 0 #[.ref a, .ref k, .ref x] h [a] (fun v h' => v = none ∧ Exa Z h' a "com/example/delayed_task_dispatch/delayedtaskdispatch/model/Target" ∧ Fld Z h' a "com/example/delayed_task_dispatch/delayedtaskdispatch/model/Target" "kind" "Lcom/example/delayed_task_dispatch/delayedtaskdispatch/model/Target$Kind;" (.ref k) ∧ Fld Z h' a "com/example/delayed_task_dispatch/delayedtaskdispatch/model/Target" "address" "Ljava/lang/String;" (.ref x)) := by
  refine Met.con (bytes := prog_6_method_1_code) (maxL := 3) (ret := none) (rm := ({ frames := 2, cells := 0, slots := 0, locals := 24 } : Room)) (Met.of (own := "com/example/delayed_task_dispatch/delayedtaskdispatch/model/Target") (nm := "<init>") #[.val (.ref a), .val (.ref k), .val (.ref x)] (ew B) rfl rfl (plainFor_of_name pn_com_example_delayed_task_dispatch_delayedtaskdispatch_model_Target) (fun m => by first | (simp [entryFrame, mkF, argsToLocals, Value.category]; done) | rfl) fun K C => ?_) (B.1 _ (List.mem_of_getElem? (i := 52) rfl)) (B.1 _ (List.mem_of_getElem? (i := 43) rfl)) rfl rfl rfl rfl
  refine C.aloadN d11_0 rfl rfl ?_
  refine C.callN a [] [] 0 (B.1 _ (List.mem_of_getElem? (i := 53) rfl)) (B.1 _ (List.mem_of_getElem? (i := 54) rfl)) (B.1 _ (List.mem_of_getElem? (i := 57) rfl)) rfl (by decide) pd__28__29_V rfl id (c_recinit B) d11_1 rfl rfl rfl (by decide) (by decide) (by decide) (by decide) all0 fun v1 h1 z1 K1 q1 => ?_
  obtain ⟨rfl, rfl⟩ := q1
  show C.W h [a] 0 0 (mkF K.m 4 #[.val (.ref a), .val (.ref k), .val (.ref x)] [])
  refine C.aloadN d11_4 rfl rfl ?_
  refine C.aloadN d11_5 rfl rfl ?_
  refine C.putF (host := "") (Or.inl (B.1 _ (List.mem_of_getElem? (i := 59) rfl))) Via.refl Fk Ea (Or.inr ⟨(B.1 _ (List.mem_of_getElem? (i := 60) rfl)), rfl, rfl⟩) (B.1 _ (List.mem_of_getElem? (i := 46) rfl)) (ty := (.object "com/example/delayed_task_dispatch/delayedtaskdispatch/model/Target$Kind")) (by decide) rfl rfl d11_6 (List.mem_of_getElem? (i := 0) rfl) fun h2 z2 K2 Ew2 Fw2 Gw2 => ?_
  have Fa_3 := Gw2 (slot_ne (Or.inr (B.1 _ (List.mem_of_getElem? (i := 62) rfl))) (Or.inr (B.1 _ (List.mem_of_getElem? (i := 60) rfl))) (by decide) (t := (.object "java/lang/String")) (t' := (.object "com/example/delayed_task_dispatch/delayedtaskdispatch/model/Target$Kind")) (by decide) (by decide)) Fa
  show C.W h2 [a] 0 0 (mkF K.m 9 #[.val (.ref a), .val (.ref k), .val (.ref x)] [])
  refine C.aloadN d11_9 rfl rfl ?_
  refine C.aloadN d11_10 rfl rfl ?_
  refine C.putF (host := "") (Or.inl (B.1 _ (List.mem_of_getElem? (i := 61) rfl))) Via.refl Fa_3 Ew2 (Or.inr ⟨(B.1 _ (List.mem_of_getElem? (i := 62) rfl)), rfl, rfl⟩) (B.1 _ (List.mem_of_getElem? (i := 46) rfl)) (ty := (.object "java/lang/String")) (by decide) rfl rfl d11_11 (List.mem_of_getElem? (i := 0) rfl) fun h4 z4 K4 Ew4 Fw4 Gw4 => ?_
  have Fk_5 := Gw4 (slot_ne (Or.inr (B.1 _ (List.mem_of_getElem? (i := 60) rfl))) (Or.inr (B.1 _ (List.mem_of_getElem? (i := 62) rfl))) (by decide) (t := (.object "com/example/delayed_task_dispatch/delayedtaskdispatch/model/Target$Kind")) (t' := (.object "java/lang/String")) (by decide) (by decide)) Fw2
  show C.W h4 [a] 0 0 (mkF K.m 14 #[.val (.ref a), .val (.ref k), .val (.ref x)] [])
  exact C.return_ rfl d11_14 (by decide) (by decide) ⟨rfl, Ew4, Fk_5, Fw4⟩
set_option maxRecDepth 65536 in
set_option maxHeartbeats 40000000 in
theorem c_callback {kS : Nat} {kT : Nat} {kP : Nat} {ia : Nat} {ic : Cell} {la : Nat} {lc : Cell} (B : Base Z a0 kS kT kP ia ic la lc) {h : Heap} {x : Nat} : Con l Z a0 EL it n0 (⟨"com/example/delayed_task_dispatch/delayedtaskdispatch/model/Target", "callback", "(Ljava/lang/String;)Lcom/example/delayed_task_dispatch/delayedtaskdispatch/model/Target;"⟩ : MethodName) 4 51 1 2 #[.ref x] h [] (fun v h' => ∃ a : Nat, v = some (.ref a) ∧ h.size ≤ a ∧ a < h'.size ∧ Exa Z h' a "com/example/delayed_task_dispatch/delayedtaskdispatch/model/Target" ∧ Fld Z h' a "com/example/delayed_task_dispatch/delayedtaskdispatch/model/Target" "kind" "Lcom/example/delayed_task_dispatch/delayedtaskdispatch/model/Target$Kind;" (.ref kS) ∧ Fld Z h' a "com/example/delayed_task_dispatch/delayedtaskdispatch/model/Target" "address" "Ljava/lang/String;" (.ref x)) := by
  refine Met.con (bytes := prog_6_method_2_code) (maxL := 1) (ret := (some (.object "com/example/delayed_task_dispatch/delayedtaskdispatch/model/Target"))) (rm := ({ frames := 3, cells := 1, slots := 2, locals := 39 } : Room)) (Met.of (own := "com/example/delayed_task_dispatch/delayedtaskdispatch/model/Target") (nm := "callback") #[.val (.ref x)] (ew B) rfl rfl (plainFor_of_name pn_com_example_delayed_task_dispatch_delayedtaskdispatch_model_Target) (fun m => by first | (simp [entryFrame, mkF, argsToLocals, Value.category]; done) | rfl) fun K C => ?_) (B.1 _ (List.mem_of_getElem? (i := 44) rfl)) (B.1 _ (List.mem_of_getElem? (i := 43) rfl)) rfl rfl rfl rfl
  refine C.new (B.1 _ (List.mem_of_getElem? (i := 45) rfl)) (B.1 _ (List.mem_of_getElem? (i := 46) rfl)) (B.1 _ (List.mem_of_getElem? (i := 43) rfl)) d12_0 (by decide) (by decide) fun h1 a2 g1 z1 o1 K1 En1 Dn1 => ?_
  show C.W h1 [a2] 1 2 (mkF K.m 3 #[.val (.ref x)] [.ref a2])
  have Fk : Fld Z h1 a2 "com/example/delayed_task_dispatch/delayedtaskdispatch/model/Target" "kind" "Lcom/example/delayed_task_dispatch/delayedtaskdispatch/model/Target$Kind;" (.null) := Dn1 (Or.inr (B.1 _ (List.mem_of_getElem? (i := 60) rfl))) (ty := (.object "com/example/delayed_task_dispatch/delayedtaskdispatch/model/Target$Kind")) (by decide)
  have Fa : Fld Z h1 a2 "com/example/delayed_task_dispatch/delayedtaskdispatch/model/Target" "address" "Ljava/lang/String;" (.null) := Dn1 (Or.inr (B.1 _ (List.mem_of_getElem? (i := 62) rfl))) (ty := (.object "java/lang/String")) (by decide)
  refine C.dup rfl d12_3 ?_
  refine C.getS (B.1 _ (List.mem_of_getElem? (i := 47) rfl)) Via.refl B.2.2.1 d12_4 ?_
  refine C.aloadN d12_7 rfl rfl ?_
  refine C.callN a2 [.ref kS, .ref x] [.ref a2] 1 (B.1 _ (List.mem_of_getElem? (i := 50) rfl)) (B.1 _ (List.mem_of_getElem? (i := 51) rfl)) (B.1 _ (List.mem_of_getElem? (i := 52) rfl)) rfl (by decide) pd__28_Lcom_2f_example_2f_delayed_task_dispatch_2f_delayedtaskdispatch_2f_model_2f_Target_24_Kind_3b_Ljava_2f_lang_2f_String_3b__29_V rfl id (c_tinit B En1 Fk Fa) d12_8 rfl rfl rfl (by decide) (by decide) (by decide) (by decide) (allS (List.mem_of_getElem? (i := 0) rfl) all0) fun v3 h3 z3 K3 q3 => ?_
  obtain ⟨rfl, Ea3, Fk3, Fa3⟩ := q3
  show C.W h3 [a2] 1 2 (mkF K.m 11 #[.val (.ref x)] [.ref a2])
  exact C.areturn rfl rfl rfl d12_11 (by decide) (by decide) ⟨a2, rfl, by omega, by omega, Ea3, Fk3, Fa3⟩
set_option maxRecDepth 65536 in
set_option maxHeartbeats 40000000 in
theorem c_stream {kS : Nat} {kT : Nat} {kP : Nat} {ia : Nat} {ic : Cell} {la : Nat} {lc : Cell} (B : Base Z a0 kS kT kP ia ic la lc) {h : Heap} {x : Nat} : Con l Z a0 EL it n0 (⟨"com/example/delayed_task_dispatch/delayedtaskdispatch/model/Target", "stream", "(Ljava/lang/String;)Lcom/example/delayed_task_dispatch/delayedtaskdispatch/model/Target;"⟩ : MethodName) 4 51 1 2 #[.ref x] h [] (fun v h' => ∃ a : Nat, v = some (.ref a) ∧ h.size ≤ a ∧ a < h'.size ∧ Exa Z h' a "com/example/delayed_task_dispatch/delayedtaskdispatch/model/Target" ∧ Fld Z h' a "com/example/delayed_task_dispatch/delayedtaskdispatch/model/Target" "kind" "Lcom/example/delayed_task_dispatch/delayedtaskdispatch/model/Target$Kind;" (.ref kT) ∧ Fld Z h' a "com/example/delayed_task_dispatch/delayedtaskdispatch/model/Target" "address" "Ljava/lang/String;" (.ref x)) := by
  refine Met.con (bytes := prog_6_method_3_code) (maxL := 1) (ret := (some (.object "com/example/delayed_task_dispatch/delayedtaskdispatch/model/Target"))) (rm := ({ frames := 3, cells := 1, slots := 2, locals := 39 } : Room)) (Met.of (own := "com/example/delayed_task_dispatch/delayedtaskdispatch/model/Target") (nm := "stream") #[.val (.ref x)] (ew B) rfl rfl (plainFor_of_name pn_com_example_delayed_task_dispatch_delayedtaskdispatch_model_Target) (fun m => by first | (simp [entryFrame, mkF, argsToLocals, Value.category]; done) | rfl) fun K C => ?_) (B.1 _ (List.mem_of_getElem? (i := 147) rfl)) (B.1 _ (List.mem_of_getElem? (i := 43) rfl)) rfl rfl rfl rfl
  refine C.new (B.1 _ (List.mem_of_getElem? (i := 45) rfl)) (B.1 _ (List.mem_of_getElem? (i := 46) rfl)) (B.1 _ (List.mem_of_getElem? (i := 43) rfl)) d13_0 (by decide) (by decide) fun h1 a2 g1 z1 o1 K1 En1 Dn1 => ?_
  show C.W h1 [a2] 1 2 (mkF K.m 3 #[.val (.ref x)] [.ref a2])
  have Fk : Fld Z h1 a2 "com/example/delayed_task_dispatch/delayedtaskdispatch/model/Target" "kind" "Lcom/example/delayed_task_dispatch/delayedtaskdispatch/model/Target$Kind;" (.null) := Dn1 (Or.inr (B.1 _ (List.mem_of_getElem? (i := 60) rfl))) (ty := (.object "com/example/delayed_task_dispatch/delayedtaskdispatch/model/Target$Kind")) (by decide)
  have Fa : Fld Z h1 a2 "com/example/delayed_task_dispatch/delayedtaskdispatch/model/Target" "address" "Ljava/lang/String;" (.null) := Dn1 (Or.inr (B.1 _ (List.mem_of_getElem? (i := 62) rfl))) (ty := (.object "java/lang/String")) (by decide)
  refine C.dup rfl d13_3 ?_
  refine C.getS (B.1 _ (List.mem_of_getElem? (i := 148) rfl)) Via.refl B.2.2.2.1 d13_4 ?_
  refine C.aloadN d13_7 rfl rfl ?_
  refine C.callN a2 [.ref kT, .ref x] [.ref a2] 1 (B.1 _ (List.mem_of_getElem? (i := 50) rfl)) (B.1 _ (List.mem_of_getElem? (i := 51) rfl)) (B.1 _ (List.mem_of_getElem? (i := 52) rfl)) rfl (by decide) pd__28_Lcom_2f_example_2f_delayed_task_dispatch_2f_delayedtaskdispatch_2f_model_2f_Target_24_Kind_3b_Ljava_2f_lang_2f_String_3b__29_V rfl id (c_tinit B En1 Fk Fa) d13_8 rfl rfl rfl (by decide) (by decide) (by decide) (by decide) (allS (List.mem_of_getElem? (i := 0) rfl) all0) fun v3 h3 z3 K3 q3 => ?_
  obtain ⟨rfl, Ea3, Fk3, Fa3⟩ := q3
  show C.W h3 [a2] 1 2 (mkF K.m 11 #[.val (.ref x)] [.ref a2])
  exact C.areturn rfl rfl rfl d13_11 (by decide) (by decide) ⟨a2, rfl, by omega, by omega, Ea3, Fk3, Fa3⟩
set_option maxRecDepth 65536 in
set_option maxHeartbeats 40000000 in
theorem c_numinit {kS : Nat} {kT : Nat} {kP : Nat} {ia : Nat} {ic : Cell} {la : Nat} {lc : Cell} (B : Base Z a0 kS kT kP ia ic la lc) {h : Heap} {a : Nat} : Con l Z a0 EL it n0 (⟨"java/lang/Number", "<init>", "()V"⟩ : MethodName) 2 24 0 0 #[.ref a] h [] (fun v h' => v = none ∧ h = h') := by
  refine Met.con (bytes := jdk_18_method_1_code) (maxL := 1) (ret := none) (rm := ({ frames := 1, cells := 0, slots := 0, locals := 12 } : Room)) (Met.of (own := "java/lang/Number") (nm := "<init>") #[.val (.ref a)] (ew B) rfl rfl (plainFor_of_name pn_java_lang_Number) (fun m => by first | (simp [entryFrame, mkF, argsToLocals, Value.category]; done) | rfl) fun K C => ?_) (B.1 _ (List.mem_of_getElem? (i := 176) rfl)) (B.1 _ (List.mem_of_getElem? (i := 175) rfl)) rfl rfl rfl rfl
  refine C.aloadN d14_0 rfl rfl ?_
  refine C.initO 0 (B.1 _ (List.mem_of_getElem? (i := 177) rfl)) (B.1 _ (List.mem_of_getElem? (i := 16) rfl)) (B.1 _ (List.mem_of_getElem? (i := 17) rfl)) d14_1 rfl rfl (by decide) (by decide) ?_
  show C.W h [] 0 0 (mkF K.m 4 #[.val (.ref a)] [])
  exact C.return_ rfl d14_4 (by decide) (by decide) ⟨rfl, rfl⟩
set_option maxRecDepth 65536 in
set_option maxHeartbeats 40000000 in
theorem c_lginit {kS : Nat} {kT : Nat} {kP : Nat} {ia : Nat} {ic : Cell} {la : Nat} {lc : Cell} (B : Base Z a0 kS kT kP ia ic la lc) {h : Heap} {a : Nat} {q : Int64} (Ea : Exa Z h a "java/lang/Long") (F : Fld Z h a "java/lang/Long" "value" "J" (.long 0)) : Con l Z a0 EL it n0 (⟨"java/lang/Long", "<init>", "(J)V"⟩ : MethodName) 3 38 0 0 #[.ref a, .long q] h [a] (fun v h' => v = none ∧ Exa Z h' a "java/lang/Long" ∧ Fld Z h' a "java/lang/Long" "value" "J" (.long q)) := by
  refine Met.con (bytes := jdk_35_method_26_code) (maxL := 3) (ret := none) (rm := ({ frames := 2, cells := 0, slots := 0, locals := 24 } : Room)) (Met.of (own := "java/lang/Long") (nm := "<init>") #[.val (.ref a), .val (.long q), .second] (ew B) rfl rfl (plainFor_of_name pn_java_lang_Long) (fun m => by first | (simp [entryFrame, mkF, argsToLocals, Value.category]; done) | rfl) fun K C => ?_) (B.1 _ (List.mem_of_getElem? (i := 170) rfl)) (B.1 _ (List.mem_of_getElem? (i := 162) rfl)) rfl rfl rfl rfl
  refine C.aloadN d15_0 rfl rfl ?_
  refine C.callN a [] [] 0 (B.1 _ (List.mem_of_getElem? (i := 171) rfl)) (B.1 _ (List.mem_of_getElem? (i := 172) rfl)) (B.1 _ (List.mem_of_getElem? (i := 176) rfl)) rfl (by decide) pd__28__29_V rfl id (c_numinit B) d15_1 rfl rfl rfl (by decide) (by decide) (by decide) (by decide) all0 fun v1 h1 z1 K1 q1 => ?_
  obtain ⟨rfl, rfl⟩ := q1
  show C.W h [a] 0 0 (mkF K.m 4 #[.val (.ref a), .val (.long q), .second] [])
  refine C.aloadN d15_4 rfl rfl ?_
  refine C.lloadN d15_5 rfl ?_
  refine C.putF (host := "") (Or.inl (B.1 _ (List.mem_of_getElem? (i := 178) rfl))) Via.refl F Ea (Or.inr ⟨(B.1 _ (List.mem_of_getElem? (i := 179) rfl)), rfl, rfl⟩) (B.1 _ (List.mem_of_getElem? (i := 166) rfl)) (ty := .long) (by decide) rfl rfl d15_6 (List.mem_of_getElem? (i := 0) rfl) fun h2 z2 K2 Ew2 Fw2 Gw2 => ?_
  show C.W h2 [a] 0 0 (mkF K.m 9 #[.val (.ref a), .val (.long q), .second] [])
  exact C.return_ rfl d15_9 (by decide) (by decide) ⟨rfl, Ew2, Fw2⟩
set_option maxRecDepth 65536 in
set_option maxHeartbeats 40000000 in
theorem c_lgof {kS : Nat} {kT : Nat} {kP : Nat} {ia : Nat} {ic : Cell} {la : Nat} {lc : Cell} (B : Base Z a0 kS kT kP ia ic la lc) {h : Heap} {q : Int64} : Con l Z a0 EL it n0 (⟨"java/lang/Long", "valueOf", "(J)Ljava/lang/Long;"⟩ : MethodName) 4 53 1 1 #[.long q] h [] (fun v h' => ∃ b : Nat, v = some (.ref b) ∧ Exa Z h' b "java/lang/Long" ∧ Fld Z h' b "java/lang/Long" "value" "J" (.long q)) := by
  refine Met.con (bytes := jdk_35_method_24_code) (maxL := 3) (ret := (some (.object "java/lang/Long"))) (rm := ({ frames := 3, cells := 1, slots := 1, locals := 39 } : Room)) (Met.of (own := "java/lang/Long") (nm := "valueOf") #[.val (.long q), .second, .unset] (ew B) rfl rfl (plainFor_of_name pn_java_lang_Long) (fun m => by first | (simp [entryFrame, mkF, argsToLocals, Value.category]; done) | rfl) fun K C => ?_) (B.1 _ (List.mem_of_getElem? (i := 163) rfl)) (B.1 _ (List.mem_of_getElem? (i := 162) rfl)) rfl rfl rfl rfl
  have km : (-128 : Int64).toInt = -128 := by decide
  have kp : (127 : Int64).toInt = 127 := by decide
  have k128 : (128 : Int32).toInt = 128 := by decide
  have q1 := c_lcmp q (-128)
  have q2 := c_lcmp q 127
  refine C.sipush (v := (128 : Int32)) d16_0 (by first | rfl | decide) ?_
  refine C.istoreN #[.val (.long q), .second, .val (.int (128 : Int32))] d16_3 rfl ?_
  refine C.lloadN d16_4 rfl ?_
  refine C.ldc2Long (v := (-128 : Int64)) (B.1 _ (List.mem_of_getElem? (i := 164) rfl)) d16_5 ?_
  refine C.lcmp d16_8 ?_
  refine C.ifc_lt 31 d16_9 (by decide) (by decide) (fun q1 => ?_) (fun q1 => ?_)
  · refine C.new (B.1 _ (List.mem_of_getElem? (i := 165) rfl)) (B.1 _ (List.mem_of_getElem? (i := 166) rfl)) (B.1 _ (List.mem_of_getElem? (i := 162) rfl)) d16_31 (by decide) (by decide) fun h2 a3 g2 z2 o2 K2 En2 Dn2 => ?_
    show C.W h2 [a3] 1 1 (mkF K.m 34 #[.val (.long q), .second, .val (.int (128 : Int32))] [.ref a3])
    have F : Fld Z h2 a3 "java/lang/Long" "value" "J" (.long 0) := Dn2 (Or.inr (B.1 _ (List.mem_of_getElem? (i := 179) rfl))) (ty := .long) (by decide)
    refine C.dup rfl d16_34 ?_
    refine C.lloadN d16_35 rfl ?_
    refine C.callN a3 [.long q] [.ref a3] 1 (B.1 _ (List.mem_of_getElem? (i := 167) rfl)) (B.1 _ (List.mem_of_getElem? (i := 168) rfl)) (B.1 _ (List.mem_of_getElem? (i := 170) rfl)) rfl (by decide) pd__28_J_29_V rfl id (c_lginit B (q := q) En2 F) d16_36 rfl rfl rfl (by decide) (by decide) (by decide) (by decide) (allS (List.mem_of_getElem? (i := 0) rfl) all0) fun v4 h4 z4 K4 q4 => ?_
    obtain ⟨rfl, E2, F2⟩ := q4
    show C.W h4 [a3] 1 1 (mkF K.m 39 #[.val (.long q), .second, .val (.int (128 : Int32))] [.ref a3])
    exact C.areturn rfl rfl rfl d16_39 (by decide) (by decide) ⟨a3, rfl, E2, F2⟩
  · refine C.lloadN d16_12 rfl ?_
    refine C.ldc2Long (v := (127 : Int64)) (B.1 _ (List.mem_of_getElem? (i := 200) rfl)) d16_13 ?_
    refine C.lcmp d16_16 ?_
    refine C.ifc_gt 31 d16_17 (by decide) (by decide) (fun q5 => ?_) (fun q5 => ?_)
    · refine C.new (B.1 _ (List.mem_of_getElem? (i := 165) rfl)) (B.1 _ (List.mem_of_getElem? (i := 166) rfl)) (B.1 _ (List.mem_of_getElem? (i := 162) rfl)) d16_31 (by decide) (by decide) fun h6 a7 g6 z6 o6 K6 En6 Dn6 => ?_
      show C.W h6 [a7] 1 1 (mkF K.m 34 #[.val (.long q), .second, .val (.int (128 : Int32))] [.ref a7])
      have F : Fld Z h6 a7 "java/lang/Long" "value" "J" (.long 0) := Dn6 (Or.inr (B.1 _ (List.mem_of_getElem? (i := 179) rfl))) (ty := .long) (by decide)
      refine C.dup rfl d16_34 ?_
      refine C.lloadN d16_35 rfl ?_
      refine C.callN a7 [.long q] [.ref a7] 1 (B.1 _ (List.mem_of_getElem? (i := 167) rfl)) (B.1 _ (List.mem_of_getElem? (i := 168) rfl)) (B.1 _ (List.mem_of_getElem? (i := 170) rfl)) rfl (by decide) pd__28_J_29_V rfl id (c_lginit B (q := q) En6 F) d16_36 rfl rfl rfl (by decide) (by decide) (by decide) (by decide) (allS (List.mem_of_getElem? (i := 0) rfl) all0) fun v8 h8 z8 K8 q8 => ?_
      obtain ⟨rfl, E2, F2⟩ := q8
      show C.W h8 [a7] 1 1 (mkF K.m 39 #[.val (.long q), .second, .val (.int (128 : Int32))] [.ref a7])
      exact C.areturn rfl rfl rfl d16_39 (by decide) (by decide) ⟨a7, rfl, E2, F2⟩
    · refine C.getS (B.1 _ (List.mem_of_getElem? (i := 201) rfl)) Via.refl B.2.2.2.2.2.2.2.2.1 d16_20 ?_
      refine C.lloadN d16_23 rfl ?_
      refine C.l2i d16_24 ?_
      refine C.sipush (v := (128 : Int32)) d16_25 (by first | rfl | decide) ?_
      refine C.iadd d16_28 ?_
      have e1 : q.toInt32.toInt = q.toInt := by
        have z := c_l2i q
        have z1 := Int32.le_toInt q.toInt32
        have z2 := Int32.toInt_lt q.toInt32
        omega
      have e2 : (q.toInt32 + (128 : Int32)).toInt = q.toInt + 128 := by rw [add_int (by omega) (by omega), e1, k128]
      have k256 : (256 : Int32).toInt = 256 := by decide
      refine C.aaloadB B.2.2.2.2.2.2.2.2.2 (by omega) (by omega) d16_29 fun b Eb Fb => ?_
      show C.W h [] 0 0 (mkF K.m 30 #[.val (.long q), .second, .val (.int (128 : Int32))] [.ref b])
      have e3 : ((q.toInt32 + (128 : Int32)) - 128).toInt64 = q := Int64.toInt_inj.mp (by rw [c_i2l, sub_int (by omega) (by omega), e2, k128]; omega)
      rw [e3] at Fb
      exact C.areturn rfl rfl rfl d16_30 (by decide) (by decide) ⟨b, rfl, Eb, Fb⟩
set_option maxRecDepth 65536 in
set_option maxHeartbeats 40000000 in
theorem c_igof {kS : Nat} {kT : Nat} {kP : Nat} {ia : Nat} {ic : Cell} {la : Nat} {lc : Cell} (B : Base Z a0 kS kT kP ia ic la lc) {h : Heap} {q : Int32} (hq : 1 ≤ q.toInt ∧ q.toInt ≤ 100) : Con l Z a0 EL it n0 (⟨"java/lang/Integer", "valueOf", "(I)Ljava/lang/Integer;"⟩ : MethodName) 1 12 0 0 #[.int q] h [] (fun v h' => ∃ b : Nat, v = some (.ref b) ∧ Exa Z h' b "java/lang/Integer" ∧ Fld Z h' b "java/lang/Integer" "value" "I" (.int q) ∧ h = h') := by
  refine Met.con (bytes := jdk_33_method_22_code) (maxL := 1) (ret := (some (.object "java/lang/Integer"))) (rm := ({ frames := 0, cells := 0, slots := 0, locals := 0 } : Room)) (Met.of (own := "java/lang/Integer") (nm := "valueOf") #[.val (.int q)] (ew B) rfl rfl (plainFor_of_name pn_java_lang_Integer) (fun m => by first | (simp [entryFrame, mkF, argsToLocals, Value.category]; done) | rfl) fun K C => ?_) (B.1 _ (List.mem_of_getElem? (i := 184) rfl)) (B.1 _ (List.mem_of_getElem? (i := 183) rfl)) rfl rfl rfl rfl
  have km128 : (-128 : Int32).toInt = -128 := by decide
  have k127 : (127 : Int32).toInt = 127 := by decide
  have k128 : (128 : Int32).toInt = 128 := by decide
  have k256 : (256 : Int32).toInt = 256 := by decide
  refine C.iloadN d17_0 rfl ?_
  refine C.bipush (v := (-128 : Int32)) d17_1 (by first | rfl | decide) ?_
  refine C.icmp_lt 23 d17_3 (by decide) (by decide) (fun q1 => ?_) (fun q1 => ?_)
  · exfalso; omega
  · refine C.iloadN d17_6 rfl ?_
    refine C.getS (B.1 _ (List.mem_of_getElem? (i := 185) rfl)) Via.refl B.2.2.2.2.2.1 d17_7 ?_
    refine C.icmp_gt 23 d17_10 (by decide) (by decide) (fun q2 => ?_) (fun q2 => ?_)
    · exfalso; omega
    · refine C.getS (B.1 _ (List.mem_of_getElem? (i := 187) rfl)) Via.refl B.2.2.2.2.2.2.1 d17_13 ?_
      refine C.iloadN d17_16 rfl ?_
      refine C.sipush (v := (128 : Int32)) d17_17 (by first | rfl | decide) ?_
      refine C.iadd d17_20 ?_
      have e2 : (q + (128 : Int32)).toInt = q.toInt + 128 := by rw [add_int (by omega) (by omega), k128]
      refine C.aaloadB B.2.2.2.2.2.2.2.1 (by omega) (by omega) d17_21 fun b Eb Fb => ?_
      show C.W h [] 0 0 (mkF K.m 22 #[.val (.int q)] [.ref b])
      have e3 : (q + (128 : Int32)) - 128 = q := Int32.toInt_inj.mp (by rw [sub_int (by omega) (by omega), e2, k128]; omega)
      rw [e3] at Fb
      exact C.areturn rfl rfl rfl d17_22 (by decide) (by decide) ⟨b, rfl, Eb, Fb, rfl⟩
set_option maxRecDepth 65536 in
set_option maxHeartbeats 40000000 in
theorem c_lgv {kS : Nat} {kT : Nat} {kP : Nat} {ia : Nat} {ic : Cell} {la : Nat} {lc : Cell} (B : Base Z a0 kS kT kP ia ic la lc) {h : Heap} {a : Nat} {q : Int64} (F : Fld Z h a "java/lang/Long" "value" "J" (.long q)) : Con l Z a0 EL it n0 (⟨"java/lang/Long", "longValue", "()J"⟩ : MethodName) 1 12 0 0 #[.ref a] h [] (fun v h' => v = some (.long q) ∧ h = h') := by
  refine Met.con (bytes := jdk_35_method_31_code) (maxL := 1) (ret := (some .long)) (rm := ({ frames := 0, cells := 0, slots := 0, locals := 0 } : Room)) (Met.of (own := "java/lang/Long") (nm := "longValue") #[.val (.ref a)] (ew B) rfl rfl (plainFor_of_name pn_java_lang_Long) (fun m => by first | (simp [entryFrame, mkF, argsToLocals, Value.category]; done) | rfl) fun K C => ?_) (B.1 _ (List.mem_of_getElem? (i := 192) rfl)) (B.1 _ (List.mem_of_getElem? (i := 162) rfl)) rfl rfl rfl rfl
  refine C.aloadN d18_0 rfl rfl ?_
  refine C.getF (host := "") (Or.inl (B.1 _ (List.mem_of_getElem? (i := 178) rfl))) Via.refl F d18_1 ?_
  exact C.lreturn rfl d18_4 (by decide) (by decide) ⟨rfl, rfl⟩
set_option maxRecDepth 65536 in
set_option maxHeartbeats 40000000 in
theorem c_igv {kS : Nat} {kT : Nat} {kP : Nat} {ia : Nat} {ic : Cell} {la : Nat} {lc : Cell} (B : Base Z a0 kS kT kP ia ic la lc) {h : Heap} {a : Nat} {q : Int32} (F : Fld Z h a "java/lang/Integer" "value" "I" (.int q)) : Con l Z a0 EL it n0 (⟨"java/lang/Integer", "intValue", "()I"⟩ : MethodName) 1 12 0 0 #[.ref a] h [] (fun v h' => v = some (.int q) ∧ h = h') := by
  refine Met.con (bytes := jdk_33_method_27_code) (maxL := 1) (ret := (some .int)) (rm := ({ frames := 0, cells := 0, slots := 0, locals := 0 } : Room)) (Met.of (own := "java/lang/Integer") (nm := "intValue") #[.val (.ref a)] (ew B) rfl rfl (plainFor_of_name pn_java_lang_Integer) (fun m => by first | (simp [entryFrame, mkF, argsToLocals, Value.category]; done) | rfl) fun K C => ?_) (B.1 _ (List.mem_of_getElem? (i := 197) rfl)) (B.1 _ (List.mem_of_getElem? (i := 183) rfl)) rfl rfl rfl rfl
  refine C.aloadN d19_0 rfl rfl ?_
  refine C.getF (host := "") (Or.inl (B.1 _ (List.mem_of_getElem? (i := 198) rfl))) Via.refl F d19_1 ?_
  exact C.ireturn (t := .int) rfl (by simp) rfl d19_4 (by decide) (by decide) ⟨rfl, rfl⟩
set_option maxRecDepth 65536 in
set_option maxHeartbeats 40000000 in
theorem c_tkinit {kS : Nat} {kT : Nat} {kP : Nat} {ia : Nat} {ic : Cell} {la : Nat} {lc : Cell} (B : Base Z a0 kS kT kP ia ic la lc) {h : Heap} {a x t : Nat} {du : Int64} {w8 w11 w12 : Value} (r8 : w8.isRef = true) (r11 : w11.isRef = true) (r12 : w12.isRef = true) (k8 : w8.category = 1) (k11 : w11.category = 1) (k12 : w12.category = 1) (Ea : Exa Z h a "com/example/delayed_task_dispatch/delayedtaskdispatch/model/Task") (F0 : Fld Z h a "com/example/delayed_task_dispatch/delayedtaskdispatch/model/Task" "id" "Ljava/lang/String;" .null) (F1 : Fld Z h a "com/example/delayed_task_dispatch/delayedtaskdispatch/model/Task" "dueAt" "J" (.long 0)) (F2 : Fld Z h a "com/example/delayed_task_dispatch/delayedtaskdispatch/model/Task" "delayMs" "Ljava/lang/Long;" .null) (F3 : Fld Z h a "com/example/delayed_task_dispatch/delayedtaskdispatch/model/Task" "target" "Lcom/example/delayed_task_dispatch/delayedtaskdispatch/model/Target;" .null) (F4 : Fld Z h a "com/example/delayed_task_dispatch/delayedtaskdispatch/model/Task" "payload" "Ljava/lang/String;" .null) (F5 : Fld Z h a "com/example/delayed_task_dispatch/delayedtaskdispatch/model/Task" "maxAttempts" "Ljava/lang/Integer;" .null) (F6 : Fld Z h a "com/example/delayed_task_dispatch/delayedtaskdispatch/model/Task" "state" "Lcom/example/delayed_task_dispatch/delayedtaskdispatch/model/TaskState;" .null) (F7 : Fld Z h a "com/example/delayed_task_dispatch/delayedtaskdispatch/model/Task" "attempts" "I" (.int 0)) (F8 : Fld Z h a "com/example/delayed_task_dispatch/delayedtaskdispatch/model/Task" "lastError" "Ljava/lang/String;" .null) : Con l Z a0 EL it n0 (⟨"com/example/delayed_task_dispatch/delayedtaskdispatch/model/Task", "<init>", "(Ljava/lang/String;JLjava/lang/Long;Lcom/example/delayed_task_dispatch/delayedtaskdispatch/model/Target;Ljava/lang/String;Ljava/lang/Integer;Lcom/example/delayed_task_dispatch/delayedtaskdispatch/model/TaskState;ILjava/lang/String;)V"⟩ : MethodName) 3 46 0 0 #[.ref a, .ref x, .long du, w8, .ref t, w11, w12, .ref kP, .int 0, .null] h [a] (fun v h' => v = none ∧ Exa Z h' a "com/example/delayed_task_dispatch/delayedtaskdispatch/model/Task" ∧ Fld Z h' a "com/example/delayed_task_dispatch/delayedtaskdispatch/model/Task" "id" "Ljava/lang/String;" (.ref x) ∧ Fld Z h' a "com/example/delayed_task_dispatch/delayedtaskdispatch/model/Task" "dueAt" "J" (.long du) ∧ Fld Z h' a "com/example/delayed_task_dispatch/delayedtaskdispatch/model/Task" "delayMs" "Ljava/lang/Long;" w8 ∧ Fld Z h' a "com/example/delayed_task_dispatch/delayedtaskdispatch/model/Task" "target" "Lcom/example/delayed_task_dispatch/delayedtaskdispatch/model/Target;" (.ref t) ∧ Fld Z h' a "com/example/delayed_task_dispatch/delayedtaskdispatch/model/Task" "payload" "Ljava/lang/String;" w11 ∧ Fld Z h' a "com/example/delayed_task_dispatch/delayedtaskdispatch/model/Task" "maxAttempts" "Ljava/lang/Integer;" w12 ∧ Fld Z h' a "com/example/delayed_task_dispatch/delayedtaskdispatch/model/Task" "state" "Lcom/example/delayed_task_dispatch/delayedtaskdispatch/model/TaskState;" (.ref kP) ∧ Fld Z h' a "com/example/delayed_task_dispatch/delayedtaskdispatch/model/Task" "attempts" "I" (.int 0) ∧ Fld Z h' a "com/example/delayed_task_dispatch/delayedtaskdispatch/model/Task" "lastError" "Ljava/lang/String;" .null) := by
  refine Met.con (bytes := prog_8_method_1_code) (maxL := 11) (ret := none) (rm := ({ frames := 2, cells := 0, slots := 0, locals := 24 } : Room)) (Met.of (own := "com/example/delayed_task_dispatch/delayedtaskdispatch/model/Task") (nm := "<init>") #[.val (.ref a), .val (.ref x), .val (.long du), .second, .val w8, .val (.ref t), .val w11, .val w12, .val (.ref kP), .val (.int 0), .val .null] (ew B) rfl rfl (plainFor_of_name pn_com_example_delayed_task_dispatch_delayedtaskdispatch_model_Task) (fun m => by simp [entryFrame, mkF, argsToLocals, cat_r, cat_i, cat_l, cat_n, k8, k11, k12]) fun K C => ?_) (B.1 _ (List.mem_of_getElem? (i := 74) rfl)) (B.1 _ (List.mem_of_getElem? (i := 65) rfl)) rfl rfl rfl rfl
  refine C.aloadN d20_0 rfl rfl ?_
  refine C.callN a [] [] 0 (B.1 _ (List.mem_of_getElem? (i := 75) rfl)) (B.1 _ (List.mem_of_getElem? (i := 54) rfl)) (B.1 _ (List.mem_of_getElem? (i := 57) rfl)) rfl (by decide) pd__28__29_V rfl id (c_recinit B) d20_1 rfl rfl rfl (by decide) (by decide) (by decide) (by decide) all0 fun v1 h1 z1 K1 q1 => ?_
  obtain ⟨rfl, rfl⟩ := q1
  show C.W h [a] 0 0 (mkF K.m 4 #[.val (.ref a), .val (.ref x), .val (.long du), .second, .val w8, .val (.ref t), .val w11, .val w12, .val (.ref kP), .val (.int 0), .val .null] [])
  refine C.aloadN d20_4 rfl rfl ?_
  refine C.aloadN d20_5 rfl rfl ?_
  refine C.putF (host := "") (Or.inl (B.1 _ (List.mem_of_getElem? (i := 76) rfl))) Via.refl F0 Ea (Or.inr ⟨(B.1 _ (List.mem_of_getElem? (i := 77) rfl)), rfl, rfl⟩) (B.1 _ (List.mem_of_getElem? (i := 68) rfl)) (ty := (.object "java/lang/String")) (by decide) rfl rfl d20_6 (List.mem_of_getElem? (i := 0) rfl) fun h2 z2 K2 Ew2 Fw2 Gw2 => ?_
  have F1_3 := Gw2 (slot_ne (Or.inr (B.1 _ (List.mem_of_getElem? (i := 79) rfl))) (Or.inr (B.1 _ (List.mem_of_getElem? (i := 77) rfl))) (by decide) (t := .long) (t' := (.object "java/lang/String")) (by decide) (by decide)) F1
  have F2_4 := Gw2 (slot_ne (Or.inr (B.1 _ (List.mem_of_getElem? (i := 81) rfl))) (Or.inr (B.1 _ (List.mem_of_getElem? (i := 77) rfl))) (by decide) (t := (.object "java/lang/Long")) (t' := (.object "java/lang/String")) (by decide) (by decide)) F2
  have F3_5 := Gw2 (slot_ne (Or.inr (B.1 _ (List.mem_of_getElem? (i := 83) rfl))) (Or.inr (B.1 _ (List.mem_of_getElem? (i := 77) rfl))) (by decide) (t := (.object "com/example/delayed_task_dispatch/delayedtaskdispatch/model/Target")) (t' := (.object "java/lang/String")) (by decide) (by decide)) F3
  have F4_6 := Gw2 (slot_ne (Or.inr (B.1 _ (List.mem_of_getElem? (i := 85) rfl))) (Or.inr (B.1 _ (List.mem_of_getElem? (i := 77) rfl))) (by decide) (t := (.object "java/lang/String")) (t' := (.object "java/lang/String")) (by decide) (by decide)) F4
  have F5_7 := Gw2 (slot_ne (Or.inr (B.1 _ (List.mem_of_getElem? (i := 87) rfl))) (Or.inr (B.1 _ (List.mem_of_getElem? (i := 77) rfl))) (by decide) (t := (.object "java/lang/Integer")) (t' := (.object "java/lang/String")) (by decide) (by decide)) F5
  have F6_8 := Gw2 (slot_ne (Or.inr (B.1 _ (List.mem_of_getElem? (i := 89) rfl))) (Or.inr (B.1 _ (List.mem_of_getElem? (i := 77) rfl))) (by decide) (t := (.object "com/example/delayed_task_dispatch/delayedtaskdispatch/model/TaskState")) (t' := (.object "java/lang/String")) (by decide) (by decide)) F6
  have F7_9 := Gw2 (slot_ne (Or.inr (B.1 _ (List.mem_of_getElem? (i := 91) rfl))) (Or.inr (B.1 _ (List.mem_of_getElem? (i := 77) rfl))) (by decide) (t := .int) (t' := (.object "java/lang/String")) (by decide) (by decide)) F7
  have F8_10 := Gw2 (slot_ne (Or.inr (B.1 _ (List.mem_of_getElem? (i := 93) rfl))) (Or.inr (B.1 _ (List.mem_of_getElem? (i := 77) rfl))) (by decide) (t := (.object "java/lang/String")) (t' := (.object "java/lang/String")) (by decide) (by decide)) F8
  show C.W h2 [a] 0 0 (mkF K.m 9 #[.val (.ref a), .val (.ref x), .val (.long du), .second, .val w8, .val (.ref t), .val w11, .val w12, .val (.ref kP), .val (.int 0), .val .null] [])
  refine C.aloadN d20_9 rfl rfl ?_
  refine C.lloadN d20_10 rfl ?_
  refine C.putF (host := "") (Or.inl (B.1 _ (List.mem_of_getElem? (i := 78) rfl))) Via.refl F1_3 Ew2 (Or.inr ⟨(B.1 _ (List.mem_of_getElem? (i := 79) rfl)), rfl, rfl⟩) (B.1 _ (List.mem_of_getElem? (i := 68) rfl)) (ty := .long) (by decide) rfl rfl d20_11 (List.mem_of_getElem? (i := 0) rfl) fun h11 z11 K11 Ew11 Fw11 Gw11 => ?_
  have F0_12 := Gw11 (slot_ne (Or.inr (B.1 _ (List.mem_of_getElem? (i := 77) rfl))) (Or.inr (B.1 _ (List.mem_of_getElem? (i := 79) rfl))) (by decide) (t := (.object "java/lang/String")) (t' := .long) (by decide) (by decide)) Fw2
  have F2_13 := Gw11 (slot_ne (Or.inr (B.1 _ (List.mem_of_getElem? (i := 81) rfl))) (Or.inr (B.1 _ (List.mem_of_getElem? (i := 79) rfl))) (by decide) (t := (.object "java/lang/Long")) (t' := .long) (by decide) (by decide)) F2_4
  have F3_14 := Gw11 (slot_ne (Or.inr (B.1 _ (List.mem_of_getElem? (i := 83) rfl))) (Or.inr (B.1 _ (List.mem_of_getElem? (i := 79) rfl))) (by decide) (t := (.object "com/example/delayed_task_dispatch/delayedtaskdispatch/model/Target")) (t' := .long) (by decide) (by decide)) F3_5
  have F4_15 := Gw11 (slot_ne (Or.inr (B.1 _ (List.mem_of_getElem? (i := 85) rfl))) (Or.inr (B.1 _ (List.mem_of_getElem? (i := 79) rfl))) (by decide) (t := (.object "java/lang/String")) (t' := .long) (by decide) (by decide)) F4_6
  have F5_16 := Gw11 (slot_ne (Or.inr (B.1 _ (List.mem_of_getElem? (i := 87) rfl))) (Or.inr (B.1 _ (List.mem_of_getElem? (i := 79) rfl))) (by decide) (t := (.object "java/lang/Integer")) (t' := .long) (by decide) (by decide)) F5_7
  have F6_17 := Gw11 (slot_ne (Or.inr (B.1 _ (List.mem_of_getElem? (i := 89) rfl))) (Or.inr (B.1 _ (List.mem_of_getElem? (i := 79) rfl))) (by decide) (t := (.object "com/example/delayed_task_dispatch/delayedtaskdispatch/model/TaskState")) (t' := .long) (by decide) (by decide)) F6_8
  have F7_18 := Gw11 (slot_ne (Or.inr (B.1 _ (List.mem_of_getElem? (i := 91) rfl))) (Or.inr (B.1 _ (List.mem_of_getElem? (i := 79) rfl))) (by decide) (t := .int) (t' := .long) (by decide) (by decide)) F7_9
  have F8_19 := Gw11 (slot_ne (Or.inr (B.1 _ (List.mem_of_getElem? (i := 93) rfl))) (Or.inr (B.1 _ (List.mem_of_getElem? (i := 79) rfl))) (by decide) (t := (.object "java/lang/String")) (t' := .long) (by decide) (by decide)) F8_10
  show C.W h11 [a] 0 0 (mkF K.m 14 #[.val (.ref a), .val (.ref x), .val (.long du), .second, .val w8, .val (.ref t), .val w11, .val w12, .val (.ref kP), .val (.int 0), .val .null] [])
  refine C.aloadN d20_14 rfl rfl ?_
  refine C.aload d20_15 rfl r8 ?_
  refine C.putF (host := "") (Or.inl (B.1 _ (List.mem_of_getElem? (i := 80) rfl))) Via.refl F2_13 Ew11 (Or.inr ⟨(B.1 _ (List.mem_of_getElem? (i := 81) rfl)), rfl, rfl⟩) (B.1 _ (List.mem_of_getElem? (i := 68) rfl)) (ty := (.object "java/lang/Long")) (by decide) (nar_ref r8) (fit_ref r8) d20_17 (List.mem_of_getElem? (i := 0) rfl) fun h20 z20 K20 Ew20 Fw20 Gw20 => ?_
  have F0_21 := Gw20 (slot_ne (Or.inr (B.1 _ (List.mem_of_getElem? (i := 77) rfl))) (Or.inr (B.1 _ (List.mem_of_getElem? (i := 81) rfl))) (by decide) (t := (.object "java/lang/String")) (t' := (.object "java/lang/Long")) (by decide) (by decide)) F0_12
  have F1_22 := Gw20 (slot_ne (Or.inr (B.1 _ (List.mem_of_getElem? (i := 79) rfl))) (Or.inr (B.1 _ (List.mem_of_getElem? (i := 81) rfl))) (by decide) (t := .long) (t' := (.object "java/lang/Long")) (by decide) (by decide)) Fw11
  have F3_23 := Gw20 (slot_ne (Or.inr (B.1 _ (List.mem_of_getElem? (i := 83) rfl))) (Or.inr (B.1 _ (List.mem_of_getElem? (i := 81) rfl))) (by decide) (t := (.object "com/example/delayed_task_dispatch/delayedtaskdispatch/model/Target")) (t' := (.object "java/lang/Long")) (by decide) (by decide)) F3_14
  have F4_24 := Gw20 (slot_ne (Or.inr (B.1 _ (List.mem_of_getElem? (i := 85) rfl))) (Or.inr (B.1 _ (List.mem_of_getElem? (i := 81) rfl))) (by decide) (t := (.object "java/lang/String")) (t' := (.object "java/lang/Long")) (by decide) (by decide)) F4_15
  have F5_25 := Gw20 (slot_ne (Or.inr (B.1 _ (List.mem_of_getElem? (i := 87) rfl))) (Or.inr (B.1 _ (List.mem_of_getElem? (i := 81) rfl))) (by decide) (t := (.object "java/lang/Integer")) (t' := (.object "java/lang/Long")) (by decide) (by decide)) F5_16
  have F6_26 := Gw20 (slot_ne (Or.inr (B.1 _ (List.mem_of_getElem? (i := 89) rfl))) (Or.inr (B.1 _ (List.mem_of_getElem? (i := 81) rfl))) (by decide) (t := (.object "com/example/delayed_task_dispatch/delayedtaskdispatch/model/TaskState")) (t' := (.object "java/lang/Long")) (by decide) (by decide)) F6_17
  have F7_27 := Gw20 (slot_ne (Or.inr (B.1 _ (List.mem_of_getElem? (i := 91) rfl))) (Or.inr (B.1 _ (List.mem_of_getElem? (i := 81) rfl))) (by decide) (t := .int) (t' := (.object "java/lang/Long")) (by decide) (by decide)) F7_18
  have F8_28 := Gw20 (slot_ne (Or.inr (B.1 _ (List.mem_of_getElem? (i := 93) rfl))) (Or.inr (B.1 _ (List.mem_of_getElem? (i := 81) rfl))) (by decide) (t := (.object "java/lang/String")) (t' := (.object "java/lang/Long")) (by decide) (by decide)) F8_19
  show C.W h20 [a] 0 0 (mkF K.m 20 #[.val (.ref a), .val (.ref x), .val (.long du), .second, .val w8, .val (.ref t), .val w11, .val w12, .val (.ref kP), .val (.int 0), .val .null] [])
  refine C.aloadN d20_20 rfl rfl ?_
  refine C.aload d20_21 rfl rfl ?_
  refine C.putF (host := "") (Or.inl (B.1 _ (List.mem_of_getElem? (i := 82) rfl))) Via.refl F3_23 Ew20 (Or.inr ⟨(B.1 _ (List.mem_of_getElem? (i := 83) rfl)), rfl, rfl⟩) (B.1 _ (List.mem_of_getElem? (i := 68) rfl)) (ty := (.object "com/example/delayed_task_dispatch/delayedtaskdispatch/model/Target")) (by decide) rfl rfl d20_23 (List.mem_of_getElem? (i := 0) rfl) fun h29 z29 K29 Ew29 Fw29 Gw29 => ?_
  have F0_30 := Gw29 (slot_ne (Or.inr (B.1 _ (List.mem_of_getElem? (i := 77) rfl))) (Or.inr (B.1 _ (List.mem_of_getElem? (i := 83) rfl))) (by decide) (t := (.object "java/lang/String")) (t' := (.object "com/example/delayed_task_dispatch/delayedtaskdispatch/model/Target")) (by decide) (by decide)) F0_21
  have F1_31 := Gw29 (slot_ne (Or.inr (B.1 _ (List.mem_of_getElem? (i := 79) rfl))) (Or.inr (B.1 _ (List.mem_of_getElem? (i := 83) rfl))) (by decide) (t := .long) (t' := (.object "com/example/delayed_task_dispatch/delayedtaskdispatch/model/Target")) (by decide) (by decide)) F1_22
  have F2_32 := Gw29 (slot_ne (Or.inr (B.1 _ (List.mem_of_getElem? (i := 81) rfl))) (Or.inr (B.1 _ (List.mem_of_getElem? (i := 83) rfl))) (by decide) (t := (.object "java/lang/Long")) (t' := (.object "com/example/delayed_task_dispatch/delayedtaskdispatch/model/Target")) (by decide) (by decide)) Fw20
  have F4_33 := Gw29 (slot_ne (Or.inr (B.1 _ (List.mem_of_getElem? (i := 85) rfl))) (Or.inr (B.1 _ (List.mem_of_getElem? (i := 83) rfl))) (by decide) (t := (.object "java/lang/String")) (t' := (.object "com/example/delayed_task_dispatch/delayedtaskdispatch/model/Target")) (by decide) (by decide)) F4_24
  have F5_34 := Gw29 (slot_ne (Or.inr (B.1 _ (List.mem_of_getElem? (i := 87) rfl))) (Or.inr (B.1 _ (List.mem_of_getElem? (i := 83) rfl))) (by decide) (t := (.object "java/lang/Integer")) (t' := (.object "com/example/delayed_task_dispatch/delayedtaskdispatch/model/Target")) (by decide) (by decide)) F5_25
  have F6_35 := Gw29 (slot_ne (Or.inr (B.1 _ (List.mem_of_getElem? (i := 89) rfl))) (Or.inr (B.1 _ (List.mem_of_getElem? (i := 83) rfl))) (by decide) (t := (.object "com/example/delayed_task_dispatch/delayedtaskdispatch/model/TaskState")) (t' := (.object "com/example/delayed_task_dispatch/delayedtaskdispatch/model/Target")) (by decide) (by decide)) F6_26
  have F7_36 := Gw29 (slot_ne (Or.inr (B.1 _ (List.mem_of_getElem? (i := 91) rfl))) (Or.inr (B.1 _ (List.mem_of_getElem? (i := 83) rfl))) (by decide) (t := .int) (t' := (.object "com/example/delayed_task_dispatch/delayedtaskdispatch/model/Target")) (by decide) (by decide)) F7_27
  have F8_37 := Gw29 (slot_ne (Or.inr (B.1 _ (List.mem_of_getElem? (i := 93) rfl))) (Or.inr (B.1 _ (List.mem_of_getElem? (i := 83) rfl))) (by decide) (t := (.object "java/lang/String")) (t' := (.object "com/example/delayed_task_dispatch/delayedtaskdispatch/model/Target")) (by decide) (by decide)) F8_28
  show C.W h29 [a] 0 0 (mkF K.m 26 #[.val (.ref a), .val (.ref x), .val (.long du), .second, .val w8, .val (.ref t), .val w11, .val w12, .val (.ref kP), .val (.int 0), .val .null] [])
  refine C.aloadN d20_26 rfl rfl ?_
  refine C.aload d20_27 rfl r11 ?_
  refine C.putF (host := "") (Or.inl (B.1 _ (List.mem_of_getElem? (i := 84) rfl))) Via.refl F4_33 Ew29 (Or.inr ⟨(B.1 _ (List.mem_of_getElem? (i := 85) rfl)), rfl, rfl⟩) (B.1 _ (List.mem_of_getElem? (i := 68) rfl)) (ty := (.object "java/lang/String")) (by decide) (nar_ref r11) (fit_ref r11) d20_29 (List.mem_of_getElem? (i := 0) rfl) fun h38 z38 K38 Ew38 Fw38 Gw38 => ?_
  have F0_39 := Gw38 (slot_ne (Or.inr (B.1 _ (List.mem_of_getElem? (i := 77) rfl))) (Or.inr (B.1 _ (List.mem_of_getElem? (i := 85) rfl))) (by decide) (t := (.object "java/lang/String")) (t' := (.object "java/lang/String")) (by decide) (by decide)) F0_30
  have F1_40 := Gw38 (slot_ne (Or.inr (B.1 _ (List.mem_of_getElem? (i := 79) rfl))) (Or.inr (B.1 _ (List.mem_of_getElem? (i := 85) rfl))) (by decide) (t := .long) (t' := (.object "java/lang/String")) (by decide) (by decide)) F1_31
  have F2_41 := Gw38 (slot_ne (Or.inr (B.1 _ (List.mem_of_getElem? (i := 81) rfl))) (Or.inr (B.1 _ (List.mem_of_getElem? (i := 85) rfl))) (by decide) (t := (.object "java/lang/Long")) (t' := (.object "java/lang/String")) (by decide) (by decide)) F2_32
  have F3_42 := Gw38 (slot_ne (Or.inr (B.1 _ (List.mem_of_getElem? (i := 83) rfl))) (Or.inr (B.1 _ (List.mem_of_getElem? (i := 85) rfl))) (by decide) (t := (.object "com/example/delayed_task_dispatch/delayedtaskdispatch/model/Target")) (t' := (.object "java/lang/String")) (by decide) (by decide)) Fw29
  have F5_43 := Gw38 (slot_ne (Or.inr (B.1 _ (List.mem_of_getElem? (i := 87) rfl))) (Or.inr (B.1 _ (List.mem_of_getElem? (i := 85) rfl))) (by decide) (t := (.object "java/lang/Integer")) (t' := (.object "java/lang/String")) (by decide) (by decide)) F5_34
  have F6_44 := Gw38 (slot_ne (Or.inr (B.1 _ (List.mem_of_getElem? (i := 89) rfl))) (Or.inr (B.1 _ (List.mem_of_getElem? (i := 85) rfl))) (by decide) (t := (.object "com/example/delayed_task_dispatch/delayedtaskdispatch/model/TaskState")) (t' := (.object "java/lang/String")) (by decide) (by decide)) F6_35
  have F7_45 := Gw38 (slot_ne (Or.inr (B.1 _ (List.mem_of_getElem? (i := 91) rfl))) (Or.inr (B.1 _ (List.mem_of_getElem? (i := 85) rfl))) (by decide) (t := .int) (t' := (.object "java/lang/String")) (by decide) (by decide)) F7_36
  have F8_46 := Gw38 (slot_ne (Or.inr (B.1 _ (List.mem_of_getElem? (i := 93) rfl))) (Or.inr (B.1 _ (List.mem_of_getElem? (i := 85) rfl))) (by decide) (t := (.object "java/lang/String")) (t' := (.object "java/lang/String")) (by decide) (by decide)) F8_37
  show C.W h38 [a] 0 0 (mkF K.m 32 #[.val (.ref a), .val (.ref x), .val (.long du), .second, .val w8, .val (.ref t), .val w11, .val w12, .val (.ref kP), .val (.int 0), .val .null] [])
  refine C.aloadN d20_32 rfl rfl ?_
  refine C.aload d20_33 rfl r12 ?_
  refine C.putF (host := "") (Or.inl (B.1 _ (List.mem_of_getElem? (i := 86) rfl))) Via.refl F5_43 Ew38 (Or.inr ⟨(B.1 _ (List.mem_of_getElem? (i := 87) rfl)), rfl, rfl⟩) (B.1 _ (List.mem_of_getElem? (i := 68) rfl)) (ty := (.object "java/lang/Integer")) (by decide) (nar_ref r12) (fit_ref r12) d20_35 (List.mem_of_getElem? (i := 0) rfl) fun h47 z47 K47 Ew47 Fw47 Gw47 => ?_
  have F0_48 := Gw47 (slot_ne (Or.inr (B.1 _ (List.mem_of_getElem? (i := 77) rfl))) (Or.inr (B.1 _ (List.mem_of_getElem? (i := 87) rfl))) (by decide) (t := (.object "java/lang/String")) (t' := (.object "java/lang/Integer")) (by decide) (by decide)) F0_39
  have F1_49 := Gw47 (slot_ne (Or.inr (B.1 _ (List.mem_of_getElem? (i := 79) rfl))) (Or.inr (B.1 _ (List.mem_of_getElem? (i := 87) rfl))) (by decide) (t := .long) (t' := (.object "java/lang/Integer")) (by decide) (by decide)) F1_40
  have F2_50 := Gw47 (slot_ne (Or.inr (B.1 _ (List.mem_of_getElem? (i := 81) rfl))) (Or.inr (B.1 _ (List.mem_of_getElem? (i := 87) rfl))) (by decide) (t := (.object "java/lang/Long")) (t' := (.object "java/lang/Integer")) (by decide) (by decide)) F2_41
  have F3_51 := Gw47 (slot_ne (Or.inr (B.1 _ (List.mem_of_getElem? (i := 83) rfl))) (Or.inr (B.1 _ (List.mem_of_getElem? (i := 87) rfl))) (by decide) (t := (.object "com/example/delayed_task_dispatch/delayedtaskdispatch/model/Target")) (t' := (.object "java/lang/Integer")) (by decide) (by decide)) F3_42
  have F4_52 := Gw47 (slot_ne (Or.inr (B.1 _ (List.mem_of_getElem? (i := 85) rfl))) (Or.inr (B.1 _ (List.mem_of_getElem? (i := 87) rfl))) (by decide) (t := (.object "java/lang/String")) (t' := (.object "java/lang/Integer")) (by decide) (by decide)) Fw38
  have F6_53 := Gw47 (slot_ne (Or.inr (B.1 _ (List.mem_of_getElem? (i := 89) rfl))) (Or.inr (B.1 _ (List.mem_of_getElem? (i := 87) rfl))) (by decide) (t := (.object "com/example/delayed_task_dispatch/delayedtaskdispatch/model/TaskState")) (t' := (.object "java/lang/Integer")) (by decide) (by decide)) F6_44
  have F7_54 := Gw47 (slot_ne (Or.inr (B.1 _ (List.mem_of_getElem? (i := 91) rfl))) (Or.inr (B.1 _ (List.mem_of_getElem? (i := 87) rfl))) (by decide) (t := .int) (t' := (.object "java/lang/Integer")) (by decide) (by decide)) F7_45
  have F8_55 := Gw47 (slot_ne (Or.inr (B.1 _ (List.mem_of_getElem? (i := 93) rfl))) (Or.inr (B.1 _ (List.mem_of_getElem? (i := 87) rfl))) (by decide) (t := (.object "java/lang/String")) (t' := (.object "java/lang/Integer")) (by decide) (by decide)) F8_46
  show C.W h47 [a] 0 0 (mkF K.m 38 #[.val (.ref a), .val (.ref x), .val (.long du), .second, .val w8, .val (.ref t), .val w11, .val w12, .val (.ref kP), .val (.int 0), .val .null] [])
  refine C.aloadN d20_38 rfl rfl ?_
  refine C.aload d20_39 rfl rfl ?_
  refine C.putF (host := "") (Or.inl (B.1 _ (List.mem_of_getElem? (i := 88) rfl))) Via.refl F6_53 Ew47 (Or.inr ⟨(B.1 _ (List.mem_of_getElem? (i := 89) rfl)), rfl, rfl⟩) (B.1 _ (List.mem_of_getElem? (i := 68) rfl)) (ty := (.object "com/example/delayed_task_dispatch/delayedtaskdispatch/model/TaskState")) (by decide) rfl rfl d20_41 (List.mem_of_getElem? (i := 0) rfl) fun h56 z56 K56 Ew56 Fw56 Gw56 => ?_
  have F0_57 := Gw56 (slot_ne (Or.inr (B.1 _ (List.mem_of_getElem? (i := 77) rfl))) (Or.inr (B.1 _ (List.mem_of_getElem? (i := 89) rfl))) (by decide) (t := (.object "java/lang/String")) (t' := (.object "com/example/delayed_task_dispatch/delayedtaskdispatch/model/TaskState")) (by decide) (by decide)) F0_48
  have F1_58 := Gw56 (slot_ne (Or.inr (B.1 _ (List.mem_of_getElem? (i := 79) rfl))) (Or.inr (B.1 _ (List.mem_of_getElem? (i := 89) rfl))) (by decide) (t := .long) (t' := (.object "com/example/delayed_task_dispatch/delayedtaskdispatch/model/TaskState")) (by decide) (by decide)) F1_49
  have F2_59 := Gw56 (slot_ne (Or.inr (B.1 _ (List.mem_of_getElem? (i := 81) rfl))) (Or.inr (B.1 _ (List.mem_of_getElem? (i := 89) rfl))) (by decide) (t := (.object "java/lang/Long")) (t' := (.object "com/example/delayed_task_dispatch/delayedtaskdispatch/model/TaskState")) (by decide) (by decide)) F2_50
  have F3_60 := Gw56 (slot_ne (Or.inr (B.1 _ (List.mem_of_getElem? (i := 83) rfl))) (Or.inr (B.1 _ (List.mem_of_getElem? (i := 89) rfl))) (by decide) (t := (.object "com/example/delayed_task_dispatch/delayedtaskdispatch/model/Target")) (t' := (.object "com/example/delayed_task_dispatch/delayedtaskdispatch/model/TaskState")) (by decide) (by decide)) F3_51
  have F4_61 := Gw56 (slot_ne (Or.inr (B.1 _ (List.mem_of_getElem? (i := 85) rfl))) (Or.inr (B.1 _ (List.mem_of_getElem? (i := 89) rfl))) (by decide) (t := (.object "java/lang/String")) (t' := (.object "com/example/delayed_task_dispatch/delayedtaskdispatch/model/TaskState")) (by decide) (by decide)) F4_52
  have F5_62 := Gw56 (slot_ne (Or.inr (B.1 _ (List.mem_of_getElem? (i := 87) rfl))) (Or.inr (B.1 _ (List.mem_of_getElem? (i := 89) rfl))) (by decide) (t := (.object "java/lang/Integer")) (t' := (.object "com/example/delayed_task_dispatch/delayedtaskdispatch/model/TaskState")) (by decide) (by decide)) Fw47
  have F7_63 := Gw56 (slot_ne (Or.inr (B.1 _ (List.mem_of_getElem? (i := 91) rfl))) (Or.inr (B.1 _ (List.mem_of_getElem? (i := 89) rfl))) (by decide) (t := .int) (t' := (.object "com/example/delayed_task_dispatch/delayedtaskdispatch/model/TaskState")) (by decide) (by decide)) F7_54
  have F8_64 := Gw56 (slot_ne (Or.inr (B.1 _ (List.mem_of_getElem? (i := 93) rfl))) (Or.inr (B.1 _ (List.mem_of_getElem? (i := 89) rfl))) (by decide) (t := (.object "java/lang/String")) (t' := (.object "com/example/delayed_task_dispatch/delayedtaskdispatch/model/TaskState")) (by decide) (by decide)) F8_55
  show C.W h56 [a] 0 0 (mkF K.m 44 #[.val (.ref a), .val (.ref x), .val (.long du), .second, .val w8, .val (.ref t), .val w11, .val w12, .val (.ref kP), .val (.int 0), .val .null] [])
  refine C.aloadN d20_44 rfl rfl ?_
  refine C.iload d20_45 rfl ?_
  refine C.putF (host := "") (Or.inl (B.1 _ (List.mem_of_getElem? (i := 90) rfl))) Via.refl F7_63 Ew56 (Or.inr ⟨(B.1 _ (List.mem_of_getElem? (i := 91) rfl)), rfl, rfl⟩) (B.1 _ (List.mem_of_getElem? (i := 68) rfl)) (ty := .int) (by decide) rfl rfl d20_47 (List.mem_of_getElem? (i := 0) rfl) fun h65 z65 K65 Ew65 Fw65 Gw65 => ?_
  have F0_66 := Gw65 (slot_ne (Or.inr (B.1 _ (List.mem_of_getElem? (i := 77) rfl))) (Or.inr (B.1 _ (List.mem_of_getElem? (i := 91) rfl))) (by decide) (t := (.object "java/lang/String")) (t' := .int) (by decide) (by decide)) F0_57
  have F1_67 := Gw65 (slot_ne (Or.inr (B.1 _ (List.mem_of_getElem? (i := 79) rfl))) (Or.inr (B.1 _ (List.mem_of_getElem? (i := 91) rfl))) (by decide) (t := .long) (t' := .int) (by decide) (by decide)) F1_58
  have F2_68 := Gw65 (slot_ne (Or.inr (B.1 _ (List.mem_of_getElem? (i := 81) rfl))) (Or.inr (B.1 _ (List.mem_of_getElem? (i := 91) rfl))) (by decide) (t := (.object "java/lang/Long")) (t' := .int) (by decide) (by decide)) F2_59
  have F3_69 := Gw65 (slot_ne (Or.inr (B.1 _ (List.mem_of_getElem? (i := 83) rfl))) (Or.inr (B.1 _ (List.mem_of_getElem? (i := 91) rfl))) (by decide) (t := (.object "com/example/delayed_task_dispatch/delayedtaskdispatch/model/Target")) (t' := .int) (by decide) (by decide)) F3_60
  have F4_70 := Gw65 (slot_ne (Or.inr (B.1 _ (List.mem_of_getElem? (i := 85) rfl))) (Or.inr (B.1 _ (List.mem_of_getElem? (i := 91) rfl))) (by decide) (t := (.object "java/lang/String")) (t' := .int) (by decide) (by decide)) F4_61
  have F5_71 := Gw65 (slot_ne (Or.inr (B.1 _ (List.mem_of_getElem? (i := 87) rfl))) (Or.inr (B.1 _ (List.mem_of_getElem? (i := 91) rfl))) (by decide) (t := (.object "java/lang/Integer")) (t' := .int) (by decide) (by decide)) F5_62
  have F6_72 := Gw65 (slot_ne (Or.inr (B.1 _ (List.mem_of_getElem? (i := 89) rfl))) (Or.inr (B.1 _ (List.mem_of_getElem? (i := 91) rfl))) (by decide) (t := (.object "com/example/delayed_task_dispatch/delayedtaskdispatch/model/TaskState")) (t' := .int) (by decide) (by decide)) Fw56
  have F8_73 := Gw65 (slot_ne (Or.inr (B.1 _ (List.mem_of_getElem? (i := 93) rfl))) (Or.inr (B.1 _ (List.mem_of_getElem? (i := 91) rfl))) (by decide) (t := (.object "java/lang/String")) (t' := .int) (by decide) (by decide)) F8_64
  show C.W h65 [a] 0 0 (mkF K.m 50 #[.val (.ref a), .val (.ref x), .val (.long du), .second, .val w8, .val (.ref t), .val w11, .val w12, .val (.ref kP), .val (.int 0), .val .null] [])
  refine C.aloadN d20_50 rfl rfl ?_
  refine C.aload d20_51 rfl rfl ?_
  refine C.putF (host := "") (Or.inl (B.1 _ (List.mem_of_getElem? (i := 92) rfl))) Via.refl F8_73 Ew65 (Or.inr ⟨(B.1 _ (List.mem_of_getElem? (i := 93) rfl)), rfl, rfl⟩) (B.1 _ (List.mem_of_getElem? (i := 68) rfl)) (ty := (.object "java/lang/String")) (by decide) rfl rfl d20_53 (List.mem_of_getElem? (i := 0) rfl) fun h74 z74 K74 Ew74 Fw74 Gw74 => ?_
  have F0_75 := Gw74 (slot_ne (Or.inr (B.1 _ (List.mem_of_getElem? (i := 77) rfl))) (Or.inr (B.1 _ (List.mem_of_getElem? (i := 93) rfl))) (by decide) (t := (.object "java/lang/String")) (t' := (.object "java/lang/String")) (by decide) (by decide)) F0_66
  have F1_76 := Gw74 (slot_ne (Or.inr (B.1 _ (List.mem_of_getElem? (i := 79) rfl))) (Or.inr (B.1 _ (List.mem_of_getElem? (i := 93) rfl))) (by decide) (t := .long) (t' := (.object "java/lang/String")) (by decide) (by decide)) F1_67
  have F2_77 := Gw74 (slot_ne (Or.inr (B.1 _ (List.mem_of_getElem? (i := 81) rfl))) (Or.inr (B.1 _ (List.mem_of_getElem? (i := 93) rfl))) (by decide) (t := (.object "java/lang/Long")) (t' := (.object "java/lang/String")) (by decide) (by decide)) F2_68
  have F3_78 := Gw74 (slot_ne (Or.inr (B.1 _ (List.mem_of_getElem? (i := 83) rfl))) (Or.inr (B.1 _ (List.mem_of_getElem? (i := 93) rfl))) (by decide) (t := (.object "com/example/delayed_task_dispatch/delayedtaskdispatch/model/Target")) (t' := (.object "java/lang/String")) (by decide) (by decide)) F3_69
  have F4_79 := Gw74 (slot_ne (Or.inr (B.1 _ (List.mem_of_getElem? (i := 85) rfl))) (Or.inr (B.1 _ (List.mem_of_getElem? (i := 93) rfl))) (by decide) (t := (.object "java/lang/String")) (t' := (.object "java/lang/String")) (by decide) (by decide)) F4_70
  have F5_80 := Gw74 (slot_ne (Or.inr (B.1 _ (List.mem_of_getElem? (i := 87) rfl))) (Or.inr (B.1 _ (List.mem_of_getElem? (i := 93) rfl))) (by decide) (t := (.object "java/lang/Integer")) (t' := (.object "java/lang/String")) (by decide) (by decide)) F5_71
  have F6_81 := Gw74 (slot_ne (Or.inr (B.1 _ (List.mem_of_getElem? (i := 89) rfl))) (Or.inr (B.1 _ (List.mem_of_getElem? (i := 93) rfl))) (by decide) (t := (.object "com/example/delayed_task_dispatch/delayedtaskdispatch/model/TaskState")) (t' := (.object "java/lang/String")) (by decide) (by decide)) F6_72
  have F7_82 := Gw74 (slot_ne (Or.inr (B.1 _ (List.mem_of_getElem? (i := 91) rfl))) (Or.inr (B.1 _ (List.mem_of_getElem? (i := 93) rfl))) (by decide) (t := .int) (t' := (.object "java/lang/String")) (by decide) (by decide)) Fw65
  show C.W h74 [a] 0 0 (mkF K.m 56 #[.val (.ref a), .val (.ref x), .val (.long du), .second, .val w8, .val (.ref t), .val w11, .val w12, .val (.ref kP), .val (.int 0), .val .null] [])
  exact C.return_ rfl d20_56 (by decide) (by decide) ⟨rfl, Ew74, F0_75, F1_76, F2_77, F3_78, F4_79, F5_80, F6_81, F7_82, Fw74⟩
set_option maxRecDepth 65536 in
set_option maxHeartbeats 40000000 in
theorem c_pend {kS : Nat} {kT : Nat} {kP : Nat} {ia : Nat} {ic : Cell} {la : Nat} {lc : Cell} (B : Base Z a0 kS kT kP ia ic la lc) {h : Heap} {x t : Nat} {du : Int64} {w8 w11 w12 : Value} (r8 : w8.isRef = true) (r11 : w11.isRef = true) (r12 : w12.isRef = true) (k8 : w8.category = 1) (k11 : w11.category = 1) (k12 : w12.category = 1) : Con l Z a0 EL it n0 (⟨"com/example/delayed_task_dispatch/delayedtaskdispatch/model/Task", "pending", "(Ljava/lang/String;JLjava/lang/Long;Lcom/example/delayed_task_dispatch/delayedtaskdispatch/model/Target;Ljava/lang/String;Ljava/lang/Integer;)Lcom/example/delayed_task_dispatch/delayedtaskdispatch/model/Task;"⟩ : MethodName) 4 65 1 9 #[.ref x, .long du, w8, .ref t, w11, w12] h [] (fun v h' => ∃ a : Nat, v = some (.ref a) ∧ Exa Z h' a "com/example/delayed_task_dispatch/delayedtaskdispatch/model/Task" ∧ Fld Z h' a "com/example/delayed_task_dispatch/delayedtaskdispatch/model/Task" "id" "Ljava/lang/String;" (.ref x) ∧ Fld Z h' a "com/example/delayed_task_dispatch/delayedtaskdispatch/model/Task" "dueAt" "J" (.long du) ∧ Fld Z h' a "com/example/delayed_task_dispatch/delayedtaskdispatch/model/Task" "delayMs" "Ljava/lang/Long;" w8 ∧ Fld Z h' a "com/example/delayed_task_dispatch/delayedtaskdispatch/model/Task" "target" "Lcom/example/delayed_task_dispatch/delayedtaskdispatch/model/Target;" (.ref t) ∧ Fld Z h' a "com/example/delayed_task_dispatch/delayedtaskdispatch/model/Task" "payload" "Ljava/lang/String;" w11 ∧ Fld Z h' a "com/example/delayed_task_dispatch/delayedtaskdispatch/model/Task" "maxAttempts" "Ljava/lang/Integer;" w12 ∧ Fld Z h' a "com/example/delayed_task_dispatch/delayedtaskdispatch/model/Task" "state" "Lcom/example/delayed_task_dispatch/delayedtaskdispatch/model/TaskState;" (.ref kP) ∧ Fld Z h' a "com/example/delayed_task_dispatch/delayedtaskdispatch/model/Task" "attempts" "I" (.int 0) ∧ Fld Z h' a "com/example/delayed_task_dispatch/delayedtaskdispatch/model/Task" "lastError" "Ljava/lang/String;" .null) := by
  refine Met.con (bytes := prog_8_method_2_code) (maxL := 7) (ret := (some (.object "com/example/delayed_task_dispatch/delayedtaskdispatch/model/Task"))) (rm := ({ frames := 3, cells := 1, slots := 9, locals := 47 } : Room)) (Met.of (own := "com/example/delayed_task_dispatch/delayedtaskdispatch/model/Task") (nm := "pending") #[.val (.ref x), .val (.long du), .second, .val w8, .val (.ref t), .val w11, .val w12] (ew B) rfl rfl (plainFor_of_name pn_com_example_delayed_task_dispatch_delayedtaskdispatch_model_Task) (fun m => by simp [entryFrame, mkF, argsToLocals, cat_r, cat_i, cat_l, cat_n, k8, k11, k12]) fun K C => ?_) (B.1 _ (List.mem_of_getElem? (i := 66) rfl)) (B.1 _ (List.mem_of_getElem? (i := 65) rfl)) rfl rfl rfl rfl
  refine C.new (B.1 _ (List.mem_of_getElem? (i := 67) rfl)) (B.1 _ (List.mem_of_getElem? (i := 68) rfl)) (B.1 _ (List.mem_of_getElem? (i := 65) rfl)) d21_0 (by decide) (by decide) fun h1 a2 g1 z1 o1 K1 En1 Dn1 => ?_
  show C.W h1 [a2] 1 9 (mkF K.m 3 #[.val (.ref x), .val (.long du), .second, .val w8, .val (.ref t), .val w11, .val w12] [.ref a2])
  have F0 : Fld Z h1 a2 "com/example/delayed_task_dispatch/delayedtaskdispatch/model/Task" "id" "Ljava/lang/String;" (.null) := Dn1 (Or.inr (B.1 _ (List.mem_of_getElem? (i := 77) rfl))) (ty := (.object "java/lang/String")) (by decide)
  have F1 : Fld Z h1 a2 "com/example/delayed_task_dispatch/delayedtaskdispatch/model/Task" "dueAt" "J" (.long 0) := Dn1 (Or.inr (B.1 _ (List.mem_of_getElem? (i := 79) rfl))) (ty := .long) (by decide)
  have F2 : Fld Z h1 a2 "com/example/delayed_task_dispatch/delayedtaskdispatch/model/Task" "delayMs" "Ljava/lang/Long;" (.null) := Dn1 (Or.inr (B.1 _ (List.mem_of_getElem? (i := 81) rfl))) (ty := (.object "java/lang/Long")) (by decide)
  have F3 : Fld Z h1 a2 "com/example/delayed_task_dispatch/delayedtaskdispatch/model/Task" "target" "Lcom/example/delayed_task_dispatch/delayedtaskdispatch/model/Target;" (.null) := Dn1 (Or.inr (B.1 _ (List.mem_of_getElem? (i := 83) rfl))) (ty := (.object "com/example/delayed_task_dispatch/delayedtaskdispatch/model/Target")) (by decide)
  have F4 : Fld Z h1 a2 "com/example/delayed_task_dispatch/delayedtaskdispatch/model/Task" "payload" "Ljava/lang/String;" (.null) := Dn1 (Or.inr (B.1 _ (List.mem_of_getElem? (i := 85) rfl))) (ty := (.object "java/lang/String")) (by decide)
  have F5 : Fld Z h1 a2 "com/example/delayed_task_dispatch/delayedtaskdispatch/model/Task" "maxAttempts" "Ljava/lang/Integer;" (.null) := Dn1 (Or.inr (B.1 _ (List.mem_of_getElem? (i := 87) rfl))) (ty := (.object "java/lang/Integer")) (by decide)
  have F6 : Fld Z h1 a2 "com/example/delayed_task_dispatch/delayedtaskdispatch/model/Task" "state" "Lcom/example/delayed_task_dispatch/delayedtaskdispatch/model/TaskState;" (.null) := Dn1 (Or.inr (B.1 _ (List.mem_of_getElem? (i := 89) rfl))) (ty := (.object "com/example/delayed_task_dispatch/delayedtaskdispatch/model/TaskState")) (by decide)
  have F7 : Fld Z h1 a2 "com/example/delayed_task_dispatch/delayedtaskdispatch/model/Task" "attempts" "I" (.int 0) := Dn1 (Or.inr (B.1 _ (List.mem_of_getElem? (i := 91) rfl))) (ty := .int) (by decide)
  have F8 : Fld Z h1 a2 "com/example/delayed_task_dispatch/delayedtaskdispatch/model/Task" "lastError" "Ljava/lang/String;" (.null) := Dn1 (Or.inr (B.1 _ (List.mem_of_getElem? (i := 93) rfl))) (ty := (.object "java/lang/String")) (by decide)
  refine C.dup rfl d21_3 ?_
  refine C.aloadN d21_4 rfl rfl ?_
  refine C.lloadN d21_5 rfl ?_
  refine C.aloadN d21_6 rfl r8 ?_
  refine C.aload d21_7 rfl rfl ?_
  refine C.aload d21_9 rfl r11 ?_
  refine C.aload d21_11 rfl r12 ?_
  refine C.getS (B.1 _ (List.mem_of_getElem? (i := 69) rfl)) Via.refl B.2.2.2.2.1 d21_13 ?_
  refine C.iconst (v := (0 : Int32)) d21_16 (by first | rfl | decide) ?_
  refine C.aconstNull d21_17 ?_
  refine C.callN a2 [.ref x, .long du, w8, .ref t, w11, w12, .ref kP, .int 0, .null] [.ref a2] 1 (B.1 _ (List.mem_of_getElem? (i := 72) rfl)) (B.1 _ (List.mem_of_getElem? (i := 73) rfl)) (B.1 _ (List.mem_of_getElem? (i := 74) rfl)) rfl (by decide) pd__28_Ljava_2f_lang_2f_String_3b_JLjava_2f_lang_2f_Long_3b_Lcom_2f_example_2f_delayed_task_dispatch_2f_delayedtaskdispatch_2f_model_2f_Target_3b_Ljava_2f_lang_2f_String_3b_Ljava_2f_lang_2f_Integer_3b_Lcom_2f_example_2f_delayed_task_dispatch_2f_delayedtaskdispatch_2f_model_2f_TaskState_3b_ILjava_2f_lang_2f_String_3b__29_V rfl id (c_tkinit B (x := x) (t := t) (du := du) r8 r11 r12 k8 k11 k12 En1 F0 F1 F2 F3 F4 F5 F6 F7 F8) d21_18 rfl rfl rfl (by decide) (by decide) (by decide) (by decide) (allS (List.mem_of_getElem? (i := 0) rfl) all0) fun v3 h3 z3 K3 q3 => ?_
  obtain ⟨rfl, E2, G0, G1, G2, G3, G4, G5, G6, G7, G8⟩ := q3
  show C.W h3 [a2] 1 9 (mkF K.m 21 #[.val (.ref x), .val (.long du), .second, .val w8, .val (.ref t), .val w11, .val w12] [.ref a2])
  exact C.areturn rfl rfl rfl d21_21 (by decide) (by decide) ⟨a2, rfl, E2, G0, G1, G2, G3, G4, G5, G6, G7, G8⟩
set_option maxRecDepth 65536 in
set_option maxHeartbeats 40000000 in
theorem c_gid {kS : Nat} {kT : Nat} {kP : Nat} {ia : Nat} {ic : Cell} {la : Nat} {lc : Cell} (B : Base Z a0 kS kT kP ia ic la lc) {h : Heap} {a : Nat} {z : Nat} (F : Fld Z h a "com/example/delayed_task_dispatch/delayedtaskdispatch/model/Task" "id" "Ljava/lang/String;" (.ref z)) : Con l Z a0 EL it n0 (⟨"com/example/delayed_task_dispatch/delayedtaskdispatch/model/Task", "id", "()Ljava/lang/String;"⟩ : MethodName) 1 12 0 0 #[.ref a] h [] (fun v h' => v = some (.ref z) ∧ h = h') := by
  refine Met.con (bytes := prog_8_method_7_code) (maxL := 1) (ret := (some (.object "java/lang/String"))) (rm := ({ frames := 0, cells := 0, slots := 0, locals := 0 } : Room)) (Met.of (own := "com/example/delayed_task_dispatch/delayedtaskdispatch/model/Task") (nm := "id") #[.val (.ref a)] (ew B) rfl rfl (plainFor_of_name pn_com_example_delayed_task_dispatch_delayedtaskdispatch_model_Task) (fun m => by first | (simp [entryFrame, mkF, argsToLocals, Value.category]; done) | rfl) fun K C => ?_) (B.1 _ (List.mem_of_getElem? (i := 98) rfl)) (B.1 _ (List.mem_of_getElem? (i := 65) rfl)) rfl rfl rfl rfl
  refine C.aloadN d22_0 rfl rfl ?_
  refine C.getF (host := "") (Or.inl (B.1 _ (List.mem_of_getElem? (i := 76) rfl))) Via.refl F d22_1 ?_
  exact C.areturn rfl rfl rfl d22_4 (by decide) (by decide) ⟨rfl, rfl⟩
set_option maxRecDepth 65536 in
set_option maxHeartbeats 40000000 in
theorem c_gdueAt {kS : Nat} {kT : Nat} {kP : Nat} {ia : Nat} {ic : Cell} {la : Nat} {lc : Cell} (B : Base Z a0 kS kT kP ia ic la lc) {h : Heap} {a : Nat} {z : Int64} (F : Fld Z h a "com/example/delayed_task_dispatch/delayedtaskdispatch/model/Task" "dueAt" "J" (.long z)) : Con l Z a0 EL it n0 (⟨"com/example/delayed_task_dispatch/delayedtaskdispatch/model/Task", "dueAt", "()J"⟩ : MethodName) 1 12 0 0 #[.ref a] h [] (fun v h' => v = some (.long z) ∧ h = h') := by
  refine Met.con (bytes := prog_8_method_8_code) (maxL := 1) (ret := (some .long)) (rm := ({ frames := 0, cells := 0, slots := 0, locals := 0 } : Room)) (Met.of (own := "com/example/delayed_task_dispatch/delayedtaskdispatch/model/Task") (nm := "dueAt") #[.val (.ref a)] (ew B) rfl rfl (plainFor_of_name pn_com_example_delayed_task_dispatch_delayedtaskdispatch_model_Task) (fun m => by first | (simp [entryFrame, mkF, argsToLocals, Value.category]; done) | rfl) fun K C => ?_) (B.1 _ (List.mem_of_getElem? (i := 108) rfl)) (B.1 _ (List.mem_of_getElem? (i := 65) rfl)) rfl rfl rfl rfl
  refine C.aloadN d23_0 rfl rfl ?_
  refine C.getF (host := "") (Or.inl (B.1 _ (List.mem_of_getElem? (i := 78) rfl))) Via.refl F d23_1 ?_
  exact C.lreturn rfl d23_4 (by decide) (by decide) ⟨rfl, rfl⟩
set_option maxRecDepth 65536 in
set_option maxHeartbeats 40000000 in
theorem c_gdelayMs {kS : Nat} {kT : Nat} {kP : Nat} {ia : Nat} {ic : Cell} {la : Nat} {lc : Cell} (B : Base Z a0 kS kT kP ia ic la lc) {h : Heap} {a : Nat} {z : Value} (rz : z.isRef = true) (F : Fld Z h a "com/example/delayed_task_dispatch/delayedtaskdispatch/model/Task" "delayMs" "Ljava/lang/Long;" z) : Con l Z a0 EL it n0 (⟨"com/example/delayed_task_dispatch/delayedtaskdispatch/model/Task", "delayMs", "()Ljava/lang/Long;"⟩ : MethodName) 1 12 0 0 #[.ref a] h [] (fun v h' => v = some z ∧ h = h') := by
  refine Met.con (bytes := prog_8_method_9_code) (maxL := 1) (ret := (some (.object "java/lang/Long"))) (rm := ({ frames := 0, cells := 0, slots := 0, locals := 0 } : Room)) (Met.of (own := "com/example/delayed_task_dispatch/delayedtaskdispatch/model/Task") (nm := "delayMs") #[.val (.ref a)] (ew B) rfl rfl (plainFor_of_name pn_com_example_delayed_task_dispatch_delayedtaskdispatch_model_Task) (fun m => by first | (simp [entryFrame, mkF, argsToLocals, Value.category]; done) | rfl) fun K C => ?_) (B.1 _ (List.mem_of_getElem? (i := 134) rfl)) (B.1 _ (List.mem_of_getElem? (i := 65) rfl)) rfl rfl rfl rfl
  refine C.aloadN d24_0 rfl rfl ?_
  refine C.getF (host := "") (Or.inl (B.1 _ (List.mem_of_getElem? (i := 80) rfl))) Via.refl F d24_1 ?_
  exact C.areturn rfl rfl rz d24_4 (by decide) (by decide) ⟨rfl, rfl⟩
set_option maxRecDepth 65536 in
set_option maxHeartbeats 40000000 in
theorem c_gtarget {kS : Nat} {kT : Nat} {kP : Nat} {ia : Nat} {ic : Cell} {la : Nat} {lc : Cell} (B : Base Z a0 kS kT kP ia ic la lc) {h : Heap} {a : Nat} {z : Nat} (F : Fld Z h a "com/example/delayed_task_dispatch/delayedtaskdispatch/model/Task" "target" "Lcom/example/delayed_task_dispatch/delayedtaskdispatch/model/Target;" (.ref z)) : Con l Z a0 EL it n0 (⟨"com/example/delayed_task_dispatch/delayedtaskdispatch/model/Task", "target", "()Lcom/example/delayed_task_dispatch/delayedtaskdispatch/model/Target;"⟩ : MethodName) 1 12 0 0 #[.ref a] h [] (fun v h' => v = some (.ref z) ∧ h = h') := by
  refine Met.con (bytes := prog_8_method_10_code) (maxL := 1) (ret := (some (.object "com/example/delayed_task_dispatch/delayedtaskdispatch/model/Target"))) (rm := ({ frames := 0, cells := 0, slots := 0, locals := 0 } : Room)) (Met.of (own := "com/example/delayed_task_dispatch/delayedtaskdispatch/model/Task") (nm := "target") #[.val (.ref a)] (ew B) rfl rfl (plainFor_of_name pn_com_example_delayed_task_dispatch_delayedtaskdispatch_model_Task) (fun m => by first | (simp [entryFrame, mkF, argsToLocals, Value.category]; done) | rfl) fun K C => ?_) (B.1 _ (List.mem_of_getElem? (i := 113) rfl)) (B.1 _ (List.mem_of_getElem? (i := 65) rfl)) rfl rfl rfl rfl
  refine C.aloadN d25_0 rfl rfl ?_
  refine C.getF (host := "") (Or.inl (B.1 _ (List.mem_of_getElem? (i := 82) rfl))) Via.refl F d25_1 ?_
  exact C.areturn rfl rfl rfl d25_4 (by decide) (by decide) ⟨rfl, rfl⟩
set_option maxRecDepth 65536 in
set_option maxHeartbeats 40000000 in
theorem c_gpayload {kS : Nat} {kT : Nat} {kP : Nat} {ia : Nat} {ic : Cell} {la : Nat} {lc : Cell} (B : Base Z a0 kS kT kP ia ic la lc) {h : Heap} {a : Nat} {z : Value} (rz : z.isRef = true) (F : Fld Z h a "com/example/delayed_task_dispatch/delayedtaskdispatch/model/Task" "payload" "Ljava/lang/String;" z) : Con l Z a0 EL it n0 (⟨"com/example/delayed_task_dispatch/delayedtaskdispatch/model/Task", "payload", "()Ljava/lang/String;"⟩ : MethodName) 1 12 0 0 #[.ref a] h [] (fun v h' => v = some z ∧ h = h') := by
  refine Met.con (bytes := prog_8_method_11_code) (maxL := 1) (ret := (some (.object "java/lang/String"))) (rm := ({ frames := 0, cells := 0, slots := 0, locals := 0 } : Room)) (Met.of (own := "com/example/delayed_task_dispatch/delayedtaskdispatch/model/Task") (nm := "payload") #[.val (.ref a)] (ew B) rfl rfl (plainFor_of_name pn_com_example_delayed_task_dispatch_delayedtaskdispatch_model_Task) (fun m => by first | (simp [entryFrame, mkF, argsToLocals, Value.category]; done) | rfl) fun K C => ?_) (B.1 _ (List.mem_of_getElem? (i := 139) rfl)) (B.1 _ (List.mem_of_getElem? (i := 65) rfl)) rfl rfl rfl rfl
  refine C.aloadN d26_0 rfl rfl ?_
  refine C.getF (host := "") (Or.inl (B.1 _ (List.mem_of_getElem? (i := 84) rfl))) Via.refl F d26_1 ?_
  exact C.areturn rfl rfl rz d26_4 (by decide) (by decide) ⟨rfl, rfl⟩
set_option maxRecDepth 65536 in
set_option maxHeartbeats 40000000 in
theorem c_gmaxAttempts {kS : Nat} {kT : Nat} {kP : Nat} {ia : Nat} {ic : Cell} {la : Nat} {lc : Cell} (B : Base Z a0 kS kT kP ia ic la lc) {h : Heap} {a : Nat} {z : Value} (rz : z.isRef = true) (F : Fld Z h a "com/example/delayed_task_dispatch/delayedtaskdispatch/model/Task" "maxAttempts" "Ljava/lang/Integer;" z) : Con l Z a0 EL it n0 (⟨"com/example/delayed_task_dispatch/delayedtaskdispatch/model/Task", "maxAttempts", "()Ljava/lang/Integer;"⟩ : MethodName) 1 12 0 0 #[.ref a] h [] (fun v h' => v = some z ∧ h = h') := by
  refine Met.con (bytes := prog_8_method_12_code) (maxL := 1) (ret := (some (.object "java/lang/Integer"))) (rm := ({ frames := 0, cells := 0, slots := 0, locals := 0 } : Room)) (Met.of (own := "com/example/delayed_task_dispatch/delayedtaskdispatch/model/Task") (nm := "maxAttempts") #[.val (.ref a)] (ew B) rfl rfl (plainFor_of_name pn_com_example_delayed_task_dispatch_delayedtaskdispatch_model_Task) (fun m => by first | (simp [entryFrame, mkF, argsToLocals, Value.category]; done) | rfl) fun K C => ?_) (B.1 _ (List.mem_of_getElem? (i := 144) rfl)) (B.1 _ (List.mem_of_getElem? (i := 65) rfl)) rfl rfl rfl rfl
  refine C.aloadN d27_0 rfl rfl ?_
  refine C.getF (host := "") (Or.inl (B.1 _ (List.mem_of_getElem? (i := 86) rfl))) Via.refl F d27_1 ?_
  exact C.areturn rfl rfl rz d27_4 (by decide) (by decide) ⟨rfl, rfl⟩
set_option maxRecDepth 65536 in
set_option maxHeartbeats 40000000 in
theorem c_gstate {kS : Nat} {kT : Nat} {kP : Nat} {ia : Nat} {ic : Cell} {la : Nat} {lc : Cell} (B : Base Z a0 kS kT kP ia ic la lc) {h : Heap} {a : Nat} {z : Nat} (F : Fld Z h a "com/example/delayed_task_dispatch/delayedtaskdispatch/model/Task" "state" "Lcom/example/delayed_task_dispatch/delayedtaskdispatch/model/TaskState;" (.ref z)) : Con l Z a0 EL it n0 (⟨"com/example/delayed_task_dispatch/delayedtaskdispatch/model/Task", "state", "()Lcom/example/delayed_task_dispatch/delayedtaskdispatch/model/TaskState;"⟩ : MethodName) 1 12 0 0 #[.ref a] h [] (fun v h' => v = some (.ref z) ∧ h = h') := by
  refine Met.con (bytes := prog_8_method_13_code) (maxL := 1) (ret := (some (.object "com/example/delayed_task_dispatch/delayedtaskdispatch/model/TaskState"))) (rm := ({ frames := 0, cells := 0, slots := 0, locals := 0 } : Room)) (Met.of (own := "com/example/delayed_task_dispatch/delayedtaskdispatch/model/Task") (nm := "state") #[.val (.ref a)] (ew B) rfl rfl (plainFor_of_name pn_com_example_delayed_task_dispatch_delayedtaskdispatch_model_Task) (fun m => by first | (simp [entryFrame, mkF, argsToLocals, Value.category]; done) | rfl) fun K C => ?_) (B.1 _ (List.mem_of_getElem? (i := 118) rfl)) (B.1 _ (List.mem_of_getElem? (i := 65) rfl)) rfl rfl rfl rfl
  refine C.aloadN d28_0 rfl rfl ?_
  refine C.getF (host := "") (Or.inl (B.1 _ (List.mem_of_getElem? (i := 88) rfl))) Via.refl F d28_1 ?_
  exact C.areturn rfl rfl rfl d28_4 (by decide) (by decide) ⟨rfl, rfl⟩
set_option maxRecDepth 65536 in
set_option maxHeartbeats 40000000 in
theorem c_gattempts {kS : Nat} {kT : Nat} {kP : Nat} {ia : Nat} {ic : Cell} {la : Nat} {lc : Cell} (B : Base Z a0 kS kT kP ia ic la lc) {h : Heap} {a : Nat} {z : Int32} (F : Fld Z h a "com/example/delayed_task_dispatch/delayedtaskdispatch/model/Task" "attempts" "I" (.int z)) : Con l Z a0 EL it n0 (⟨"com/example/delayed_task_dispatch/delayedtaskdispatch/model/Task", "attempts", "()I"⟩ : MethodName) 1 12 0 0 #[.ref a] h [] (fun v h' => v = some (.int z) ∧ h = h') := by
  refine Met.con (bytes := prog_8_method_14_code) (maxL := 1) (ret := (some .int)) (rm := ({ frames := 0, cells := 0, slots := 0, locals := 0 } : Room)) (Met.of (own := "com/example/delayed_task_dispatch/delayedtaskdispatch/model/Task") (nm := "attempts") #[.val (.ref a)] (ew B) rfl rfl (plainFor_of_name pn_com_example_delayed_task_dispatch_delayedtaskdispatch_model_Task) (fun m => by first | (simp [entryFrame, mkF, argsToLocals, Value.category]; done) | rfl) fun K C => ?_) (B.1 _ (List.mem_of_getElem? (i := 124) rfl)) (B.1 _ (List.mem_of_getElem? (i := 65) rfl)) rfl rfl rfl rfl
  refine C.aloadN d29_0 rfl rfl ?_
  refine C.getF (host := "") (Or.inl (B.1 _ (List.mem_of_getElem? (i := 90) rfl))) Via.refl F d29_1 ?_
  exact C.ireturn (t := .int) rfl (by simp) rfl d29_4 (by decide) (by decide) ⟨rfl, rfl⟩
set_option maxRecDepth 65536 in
set_option maxHeartbeats 40000000 in
theorem c_glastError {kS : Nat} {kT : Nat} {kP : Nat} {ia : Nat} {ic : Cell} {la : Nat} {lc : Cell} (B : Base Z a0 kS kT kP ia ic la lc) {h : Heap} {a : Nat} (F : Fld Z h a "com/example/delayed_task_dispatch/delayedtaskdispatch/model/Task" "lastError" "Ljava/lang/String;" .null) : Con l Z a0 EL it n0 (⟨"com/example/delayed_task_dispatch/delayedtaskdispatch/model/Task", "lastError", "()Ljava/lang/String;"⟩ : MethodName) 1 12 0 0 #[.ref a] h [] (fun v h' => v = some .null ∧ h = h') := by
  refine Met.con (bytes := prog_8_method_15_code) (maxL := 1) (ret := (some (.object "java/lang/String"))) (rm := ({ frames := 0, cells := 0, slots := 0, locals := 0 } : Room)) (Met.of (own := "com/example/delayed_task_dispatch/delayedtaskdispatch/model/Task") (nm := "lastError") #[.val (.ref a)] (ew B) rfl rfl (plainFor_of_name pn_com_example_delayed_task_dispatch_delayedtaskdispatch_model_Task) (fun m => by first | (simp [entryFrame, mkF, argsToLocals, Value.category]; done) | rfl) fun K C => ?_) (B.1 _ (List.mem_of_getElem? (i := 129) rfl)) (B.1 _ (List.mem_of_getElem? (i := 65) rfl)) rfl rfl rfl rfl
  refine C.aloadN d30_0 rfl rfl ?_
  refine C.getF (host := "") (Or.inl (B.1 _ (List.mem_of_getElem? (i := 92) rfl))) Via.refl F d30_1 ?_
  exact C.areturn rfl rfl rfl d30_4 (by decide) (by decide) ⟨rfl, rfl⟩
set_option maxRecDepth 65536 in
set_option maxHeartbeats 40000000 in
theorem c_draw {kS : Nat} {kT : Nat} {kP : Nat} {ia : Nat} {ic : Cell} {la : Nat} {lc : Cell} (B : Base Z a0 kS kT kP ia ic la lc) (hit : it) {h : Heap} {p n : Int32} : Con l Z a0 EL it n0 (⟨"com/example/delayed_task_dispatch/delayedtaskdispatch/model/TaskPendingPinLaw", "draw", "(II)Ljava/lang/String;"⟩ : MethodName) 5 81 6 14 #[.int p, .int n] h [] (fun v h' => ∃ x : Nat, v = some (.ref x) ∧ Exa Z h' x "java/lang/String") := by
  refine Met.con (bytes := method_2_code) (maxL := 4) (ret := (some (.object "java/lang/String"))) (rm := ({ frames := 4, cells := 6, slots := 14, locals := 66 } : Room)) (Met.of (own := "com/example/delayed_task_dispatch/delayedtaskdispatch/model/TaskPendingPinLaw") (nm := "draw") #[.val (.int p), .val (.int n), .unset, .unset] (ew B) rfl rfl (plainFor_of_name pn_com_example_delayed_task_dispatch_delayedtaskdispatch_model_TaskPendingPinLaw) (fun m => by first | (simp [entryFrame, mkF, argsToLocals, Value.category]; done) | rfl) fun K C => ?_) (B.1 _ (List.mem_of_getElem? (i := 3) rfl)) (B.1 _ (List.mem_of_getElem? (i := 2) rfl)) rfl rfl rfl rfl
  refine C.iloadN d31_0 rfl ?_
  refine C.sipush (v := (255 : Int32)) d31_1 (by first | rfl | decide) ?_
  refine C.iand d31_4 ?_
  refine C.i2c d31_5 ?_
  obtain ⟨c0, e_c0⟩ : ∃ z, (p &&& (255 : Int32)).toUInt32.toUInt16.toUInt32.toInt32 = z := ⟨_, rfl⟩
  refine C.topI e_c0 ?_
  have b_c0 : 0 ≤ c0.toInt ∧ c0.toInt < 256 := by rw [← e_c0]; exact and_chr _
  refine C.istoreN #[.val (.int p), .val (.int n), .val (.int c0), .unset] d31_6 rfl ?_
  refine C.iloadN d31_7 rfl ?_
  refine C.bipush (v := (8 : Int32)) d31_8 (by first | rfl | decide) ?_
  refine C.iushr d31_10 ?_
  refine C.sipush (v := (255 : Int32)) d31_11 (by first | rfl | decide) ?_
  refine C.iand d31_14 ?_
  refine C.i2c d31_15 ?_
  obtain ⟨c1, e_c1⟩ : ∃ z, ((p.toUInt32 >>> ((8 : Int32) &&& 31).toUInt32).toInt32 &&& (255 : Int32)).toUInt32.toUInt16.toUInt32.toInt32 = z := ⟨_, rfl⟩
  refine C.topI e_c1 ?_
  have b_c1 : 0 ≤ c1.toInt ∧ c1.toInt < 256 := by rw [← e_c1]; exact and_chr _
  refine C.istoreN #[.val (.int p), .val (.int n), .val (.int c0), .val (.int c1)] d31_16 rfl ?_
  refine C.iloadN d31_17 rfl ?_
  refine C.ifc_ne 32 d31_18 (by decide) (by decide) (fun q1 => ?_) (fun q1 => ?_)
  · refine C.iloadN d31_32 rfl ?_
    refine C.iconst (v := (1 : Int32)) d31_33 (by first | rfl | decide) ?_
    refine C.icmp_ne 52 d31_34 (by decide) (by decide) (fun q2 => ?_) (fun q2 => ?_)
    · refine C.new (B.1 _ (List.mem_of_getElem? (i := 4) rfl)) (B.1 _ (List.mem_of_getElem? (i := 5) rfl)) (B.1 _ (List.mem_of_getElem? (i := 6) rfl)) d31_52 (by decide) (by decide) fun h3 a4 g3 z3 o3 K3 En3 Dn3 => ?_
      show C.W h3 [a4] 1 4 (mkF K.m 55 #[.val (.int p), .val (.int n), .val (.int c0), .val (.int c1)] [.ref a4])
      have Fv : Fld Z h3 a4 "java/lang/String" "value" "[B" (.null) := Dn3 (Or.inr (B.1 _ (List.mem_of_getElem? (i := 20) rfl))) (ty := (.array .byte)) (by decide)
      have Fc : Fld Z h3 a4 "java/lang/String" "coder" "B" (.int 0) := Dn3 (Or.inr (B.1 _ (List.mem_of_getElem? (i := 21) rfl))) (ty := .byte) (by decide)
      refine C.dup rfl d31_55 ?_
      refine C.iconst (v := (2 : Int32)) d31_56 (by first | rfl | decide) ?_
      refine C.newarr 2 2 (B.1 _ (List.mem_of_getElem? (i := 7) rfl)) d31_57 (by first | rfl | decide) (by decide) (by decide) (by decide) (by decide) fun h5 a6 g5 z5 o5 K5 An5 => ?_
      have An5 : Ary Z h5 a6 .char [.int 0, .int 0] := An5
      show C.W h5 [a6, a4] 2 6 (mkF K.m 59 #[.val (.int p), .val (.int n), .val (.int c0), .val (.int c1)] [.ref a6, .ref a4, .ref a4])
      refine C.dup rfl d31_59 ?_
      refine C.iconst (v := (0 : Int32)) d31_60 (by first | rfl | decide) ?_
      refine C.iloadN d31_61 rfl ?_
      refine C.castore 0 An5 (by first | rfl | decide) (Nat.le_of_ble_eq_true rfl) (by omega) (by omega) d31_62 (List.mem_of_getElem? (i := 0) rfl) fun h7 z7 K7 Aw7 => ?_
      have Aw7 : Ary Z h7 a6 .char [.int c0, .int 0] := Aw7
      show C.W h7 [a6, a4] 2 6 (mkF K.m 63 #[.val (.int p), .val (.int n), .val (.int c0), .val (.int c1)] [.ref a6, .ref a4, .ref a4])
      refine C.dup rfl d31_63 ?_
      refine C.iconst (v := (1 : Int32)) d31_64 (by first | rfl | decide) ?_
      refine C.iloadN d31_65 rfl ?_
      refine C.castore 1 Aw7 (by first | rfl | decide) (Nat.le_of_ble_eq_true rfl) (by omega) (by omega) d31_66 (List.mem_of_getElem? (i := 0) rfl) fun h8 z8 K8 Aw8 => ?_
      have Aw8 : Ary Z h8 a6 .char [.int c0, .int c1] := Aw8
      show C.W h8 [a6, a4] 2 6 (mkF K.m 67 #[.val (.int p), .val (.int n), .val (.int c0), .val (.int c1)] [.ref a6, .ref a4, .ref a4])
      have En3_9 := (((En3.keep K5).keep K7).keep K8)
      have Fv_10 := (((Fv.keep K5 nin0).keep K7 (ninS (neA (by omega)) nin0)).keep K8 (ninS (neA (by omega)) nin0))
      have Fc_11 := (((Fc.keep K5 nin0).keep K7 (ninS (neA (by omega)) nin0)).keep K8 (ninS (neA (by omega)) nin0))
      refine C.callN a4 [.ref a6] [.ref a4] 1 (B.1 _ (List.mem_of_getElem? (i := 8) rfl)) (B.1 _ (List.mem_of_getElem? (i := 9) rfl)) (B.1 _ (List.mem_of_getElem? (i := 10) rfl)) rfl (by decide) pd__28__5b_C_29_V rfl id (c_init1 B hit (cs := [c0, c1]) En3_9 Fv_10 Fc_11 Aw8 (Nat.le_of_ble_eq_true rfl) (by simp; omega)) d31_67 rfl rfl rfl (by decide) (by decide) (by decide) (by decide) (allS (List.mem_of_getElem? (i := 1) rfl) all0) fun v12 h12 z12 K12 q12 => ?_
      obtain ⟨rfl, S12⟩ := q12
      show C.W h12 [a6, a4] 6 14 (mkF K.m 70 #[.val (.int p), .val (.int n), .val (.int c0), .val (.int c1)] [.ref a4])
      exact C.areturn rfl rfl rfl d31_70 (by decide) (by decide) ⟨a4, rfl, S12.exa⟩
    · refine C.new (B.1 _ (List.mem_of_getElem? (i := 4) rfl)) (B.1 _ (List.mem_of_getElem? (i := 5) rfl)) (B.1 _ (List.mem_of_getElem? (i := 6) rfl)) d31_37 (by decide) (by decide) fun h13 a14 g13 z13 o13 K13 En13 Dn13 => ?_
      show C.W h13 [a14] 1 4 (mkF K.m 40 #[.val (.int p), .val (.int n), .val (.int c0), .val (.int c1)] [.ref a14])
      have Fv : Fld Z h13 a14 "java/lang/String" "value" "[B" (.null) := Dn13 (Or.inr (B.1 _ (List.mem_of_getElem? (i := 20) rfl))) (ty := (.array .byte)) (by decide)
      have Fc : Fld Z h13 a14 "java/lang/String" "coder" "B" (.int 0) := Dn13 (Or.inr (B.1 _ (List.mem_of_getElem? (i := 21) rfl))) (ty := .byte) (by decide)
      refine C.dup rfl d31_40 ?_
      refine C.iconst (v := (1 : Int32)) d31_41 (by first | rfl | decide) ?_
      refine C.newarr 1 1 (B.1 _ (List.mem_of_getElem? (i := 7) rfl)) d31_42 (by first | rfl | decide) (by decide) (by decide) (by decide) (by decide) fun h15 a16 g15 z15 o15 K15 An15 => ?_
      have An15 : Ary Z h15 a16 .char [.int 0] := An15
      show C.W h15 [a16, a14] 2 5 (mkF K.m 44 #[.val (.int p), .val (.int n), .val (.int c0), .val (.int c1)] [.ref a16, .ref a14, .ref a14])
      refine C.dup rfl d31_44 ?_
      refine C.iconst (v := (0 : Int32)) d31_45 (by first | rfl | decide) ?_
      refine C.iloadN d31_46 rfl ?_
      refine C.castore 0 An15 (by first | rfl | decide) (Nat.le_of_ble_eq_true rfl) (by omega) (by omega) d31_47 (List.mem_of_getElem? (i := 0) rfl) fun h17 z17 K17 Aw17 => ?_
      have Aw17 : Ary Z h17 a16 .char [.int c0] := Aw17
      show C.W h17 [a16, a14] 2 5 (mkF K.m 48 #[.val (.int p), .val (.int n), .val (.int c0), .val (.int c1)] [.ref a16, .ref a14, .ref a14])
      have En13_18 := ((En13.keep K15).keep K17)
      have Fv_19 := ((Fv.keep K15 nin0).keep K17 (ninS (neA (by omega)) nin0))
      have Fc_20 := ((Fc.keep K15 nin0).keep K17 (ninS (neA (by omega)) nin0))
      refine C.callN a14 [.ref a16] [.ref a14] 1 (B.1 _ (List.mem_of_getElem? (i := 8) rfl)) (B.1 _ (List.mem_of_getElem? (i := 9) rfl)) (B.1 _ (List.mem_of_getElem? (i := 10) rfl)) rfl (by decide) pd__28__5b_C_29_V rfl id (c_init1 B hit (cs := [c0]) En13_18 Fv_19 Fc_20 Aw17 (Nat.le_of_ble_eq_true rfl) (by simp; omega)) d31_48 rfl rfl rfl (by decide) (by decide) (by decide) (by decide) (allS (List.mem_of_getElem? (i := 1) rfl) all0) fun v21 h21 z21 K21 q21 => ?_
      obtain ⟨rfl, S21⟩ := q21
      show C.W h21 [a16, a14] 6 13 (mkF K.m 51 #[.val (.int p), .val (.int n), .val (.int c0), .val (.int c1)] [.ref a14])
      exact C.areturn rfl rfl rfl d31_51 (by decide) (by decide) ⟨a14, rfl, S21.exa⟩
  · refine C.new (B.1 _ (List.mem_of_getElem? (i := 4) rfl)) (B.1 _ (List.mem_of_getElem? (i := 5) rfl)) (B.1 _ (List.mem_of_getElem? (i := 6) rfl)) d31_21 (by decide) (by decide) fun h22 a23 g22 z22 o22 K22 En22 Dn22 => ?_
    show C.W h22 [a23] 1 4 (mkF K.m 24 #[.val (.int p), .val (.int n), .val (.int c0), .val (.int c1)] [.ref a23])
    have Fv : Fld Z h22 a23 "java/lang/String" "value" "[B" (.null) := Dn22 (Or.inr (B.1 _ (List.mem_of_getElem? (i := 20) rfl))) (ty := (.array .byte)) (by decide)
    have Fc : Fld Z h22 a23 "java/lang/String" "coder" "B" (.int 0) := Dn22 (Or.inr (B.1 _ (List.mem_of_getElem? (i := 21) rfl))) (ty := .byte) (by decide)
    refine C.dup rfl d31_24 ?_
    refine C.iconst (v := (0 : Int32)) d31_25 (by first | rfl | decide) ?_
    refine C.newarr 0 0 (B.1 _ (List.mem_of_getElem? (i := 7) rfl)) d31_26 (by first | rfl | decide) (by decide) (by decide) (by decide) (by decide) fun h24 a25 g24 z24 o24 K24 An24 => ?_
    have An24 : Ary Z h24 a25 .char [] := An24
    show C.W h24 [a25, a23] 2 4 (mkF K.m 28 #[.val (.int p), .val (.int n), .val (.int c0), .val (.int c1)] [.ref a25, .ref a23, .ref a23])
    have En22_26 := (En22.keep K24)
    have Fv_27 := (Fv.keep K24 nin0)
    have Fc_28 := (Fc.keep K24 nin0)
    refine C.callN a23 [.ref a25] [.ref a23] 1 (B.1 _ (List.mem_of_getElem? (i := 8) rfl)) (B.1 _ (List.mem_of_getElem? (i := 9) rfl)) (B.1 _ (List.mem_of_getElem? (i := 10) rfl)) rfl (by decide) pd__28__5b_C_29_V rfl id (c_init1 B hit (cs := []) En22_26 Fv_27 Fc_28 An24 (Nat.le_of_ble_eq_true rfl) (by simp)) d31_28 rfl rfl rfl (by decide) (by decide) (by decide) (by decide) (allS (List.mem_of_getElem? (i := 1) rfl) all0) fun v29 h29 z29 K29 q29 => ?_
    obtain ⟨rfl, S29⟩ := q29
    show C.W h29 [a25, a23] 6 12 (mkF K.m 31 #[.val (.int p), .val (.int n), .val (.int c0), .val (.int c1)] [.ref a23])
    exact C.areturn rfl rfl rfl d31_31 (by decide) (by decide) ⟨a23, rfl, S29.exa⟩
set_option maxRecDepth 65536 in
set_option maxHeartbeats 40000000 in
theorem m_law {kS : Nat} {kT : Nat} {kP : Nat} {ia : Nat} {ic : Cell} {la : Nat} {lc : Cell} (B : Base Z a0 kS kT kP ia ic la lc) {p0 p3 p4 : Int32} {du q : Int64} {h : Heap} : Met l Z EL True n0 x code maxLocals Jvm.Pilot.@@N@@.ret room_1 tables_1 #[.int p0, .long du, .long q, .int p3, .int p4] h [] (fun v h' => v = some (.int 1)) := by
  refine Met.of (own := "com/example/delayed_task_dispatch/delayedtaskdispatch/model/TaskPendingPinLaw") (nm := "law") #[.val (.int p0), .val (.long du), .second, .val (.long q), .second, .val (.int p3), .val (.int p4), .unset, .unset, .unset, .unset, .unset, .unset, .unset, .unset, .unset, .unset, .unset, .unset, .unset, .unset] (ew B) rfl rfl (plainFor_of_name pn_com_example_delayed_task_dispatch_delayedtaskdispatch_model_TaskPendingPinLaw) (fun m => by first | (simp [entryFrame, mkF, argsToLocals, Value.category, maxLocals]; done) | rfl) fun K C => ?_
  refine C.iloadN at_0 rfl ?_
  refine C.iloadN at_1 rfl ?_
  refine C.bipush (v := (16 : Int32)) at_2 (by first | rfl | decide) ?_
  refine C.iushr at_4 ?_
  refine C.iconst (v := (3 : Int32)) at_5 (by first | rfl | decide) ?_
  refine C.irem (by decide) at_6 ?_
  refine C.callS [.int p0, .int ((p0.toUInt32 >>> ((16 : Int32) &&& 31).toUInt32).toInt32 % (3 : Int32))] [] 0 (B.1 _ (List.mem_of_getElem? (i := 0) rfl)) (B.1 _ (List.mem_of_getElem? (i := 1) rfl)) (B.1 _ (List.mem_of_getElem? (i := 2) rfl)) (B.1 _ (List.mem_of_getElem? (i := 3) rfl)) (by decide) pd__28_II_29_Ljava_2f_lang_2f_String_3b_ rfl id (c_draw B trivial) at_7 rfl rfl rfl (by decide) (by decide) (by decide) (by decide) all0 fun v1 h1 z1 K1 q1 => ?_
  obtain ⟨x, rfl, Ex⟩ := q1
  show C.W h1 [] 6 14 (mkF K.m 10 #[.val (.int p0), .val (.long du), .second, .val (.long q), .second, .val (.int p3), .val (.int p4), .unset, .unset, .unset, .unset, .unset, .unset, .unset, .unset, .unset, .unset, .unset, .unset, .unset, .unset] [.ref x])
  refine C.astore #[.val (.int p0), .val (.long du), .second, .val (.long q), .second, .val (.int p3), .val (.int p4), .val (.ref x), .unset, .unset, .unset, .unset, .unset, .unset, .unset, .unset, .unset, .unset, .unset, .unset, .unset] at_10 rfl rfl ?_
  refine C.iload at_12 rfl ?_
  refine C.iconst (v := (1 : Int32)) at_14 (by first | rfl | decide) ?_
  refine C.iand at_15 ?_
  have J2 : ∀ (hJ1 : Heap) (w8 : Value), Exa Z hJ1 x "java/lang/String" → Bx Z hJ1 "java/lang/Long" "J" (.long q) w8 → C.W hJ1 [] 10 100 (mkF K.m 27 #[.val (.int p0), .val (.long du), .second, .val (.long q), .second, .val (.int p3), .val (.int p4), .val (.ref x), .unset, .unset, .unset, .unset, .unset, .unset, .unset, .unset, .unset, .unset, .unset, .unset, .unset] [w8]) := by
    intro hJ1 w8 Ex B8
    have r8 := B8.ref
    refine C.astore #[.val (.int p0), .val (.long du), .second, .val (.long q), .second, .val (.int p3), .val (.int p4), .val (.ref x), .val w8, .unset, .unset, .unset, .unset, .unset, .unset, .unset, .unset, .unset, .unset, .unset, .unset] at_27 r8 (XS.store1 rfl (Or.inl rfl) (cat_ref r8)) ?_
    refine C.iload at_29 rfl ?_
    refine C.bipush (v := (24 : Int32)) at_31 (by first | rfl | decide) ?_
    refine C.iushr at_33 ?_
    refine C.sipush (v := (255 : Int32)) at_34 (by first | rfl | decide) ?_
    refine C.iand at_37 ?_
    refine C.i2c at_38 ?_
    obtain ⟨c8, e_c8⟩ : ∃ z, ((p3.toUInt32 >>> ((24 : Int32) &&& 31).toUInt32).toInt32 &&& (255 : Int32)).toUInt32.toUInt16.toUInt32.toInt32 = z := ⟨_, rfl⟩
    refine C.topI e_c8 ?_
    have b_c8 : 0 ≤ c8.toInt ∧ c8.toInt < 256 := by rw [← e_c8]; exact and_chr _
    refine C.callS [.int c8] [] 0 (B.1 _ (List.mem_of_getElem? (i := 26) rfl)) (B.1 _ (List.mem_of_getElem? (i := 27) rfl)) (B.1 _ (List.mem_of_getElem? (i := 6) rfl)) (B.1 _ (List.mem_of_getElem? (i := 28) rfl)) (by decide) pd__28_C_29_Ljava_2f_lang_2f_String_3b_ rfl id (c_valueOf B b_c8) at_39 rfl rfl rfl (by decide) (by decide) (by decide) (by decide) all0 fun v3 h3 z3 K3 q3 => ?_
    obtain ⟨y9, rfl, l9, S9⟩ := q3
    show C.W h3 [] 12 105 (mkF K.m 42 #[.val (.int p0), .val (.long du), .second, .val (.long q), .second, .val (.int p3), .val (.int p4), .val (.ref x), .val w8, .unset, .unset, .unset, .unset, .unset, .unset, .unset, .unset, .unset, .unset, .unset, .unset] [.ref y9])
    refine C.astore #[.val (.int p0), .val (.long du), .second, .val (.long q), .second, .val (.int p3), .val (.int p4), .val (.ref x), .val w8, .val (.ref y9), .unset, .unset, .unset, .unset, .unset, .unset, .unset, .unset, .unset, .unset, .unset] at_42 rfl rfl ?_
    refine C.iload at_44 rfl ?_
    refine C.iconst (v := (2 : Int32)) at_46 (by first | rfl | decide) ?_
    refine C.iand at_47 ?_
    have J4 : ∀ (hJ2 : Heap) (t10 : Nat), Exa Z hJ2 x "java/lang/String" → Bx Z hJ2 "java/lang/Long" "J" (.long q) w8 → C.W hJ2 [] 14 200 (mkF K.m 64 #[.val (.int p0), .val (.long du), .second, .val (.long q), .second, .val (.int p3), .val (.int p4), .val (.ref x), .val w8, .val (.ref y9), .unset, .unset, .unset, .unset, .unset, .unset, .unset, .unset, .unset, .unset, .unset] [.ref t10]) := by
      intro hJ2 t10 Ex B8
      refine C.astore #[.val (.int p0), .val (.long du), .second, .val (.long q), .second, .val (.int p3), .val (.int p4), .val (.ref x), .val w8, .val (.ref y9), .val (.ref t10), .unset, .unset, .unset, .unset, .unset, .unset, .unset, .unset, .unset, .unset] at_64 rfl rfl ?_
      refine C.iload at_66 rfl ?_
      refine C.iconst (v := (4 : Int32)) at_68 (by first | rfl | decide) ?_
      refine C.iand at_69 ?_
      have J5 : ∀ (hJ3 : Heap) (w11 : Value), Exa Z hJ3 x "java/lang/String" → Bx Z hJ3 "java/lang/Long" "J" (.long q) w8 → Ob Z hJ3 "java/lang/String" w11 → C.W hJ3 [] 22 300 (mkF K.m 93 #[.val (.int p0), .val (.long du), .second, .val (.long q), .second, .val (.int p3), .val (.int p4), .val (.ref x), .val w8, .val (.ref y9), .val (.ref t10), .unset, .unset, .unset, .unset, .unset, .unset, .unset, .unset, .unset, .unset] [w11]) := by
        intro hJ3 w11 Ex B8 B11
        have r11 := B11.ref
        refine C.astore #[.val (.int p0), .val (.long du), .second, .val (.long q), .second, .val (.int p3), .val (.int p4), .val (.ref x), .val w8, .val (.ref y9), .val (.ref t10), .val w11, .unset, .unset, .unset, .unset, .unset, .unset, .unset, .unset, .unset] at_93 r11 (XS.store1 rfl (Or.inl rfl) (cat_ref r11)) ?_
        refine C.iload at_95 rfl ?_
        refine C.bipush (v := (8 : Int32)) at_97 (by first | rfl | decide) ?_
        refine C.iand at_99 ?_
        have J6 : ∀ (hJ4 : Heap) (w12 : Value) (q12 : Int32), Exa Z hJ4 x "java/lang/String" → Bx Z hJ4 "java/lang/Long" "J" (.long q) w8 → Ob Z hJ4 "java/lang/String" w11 → Bx Z hJ4 "java/lang/Integer" "I" (.int q12) w12 → C.W hJ4 [] 22 400 (mkF K.m 122 #[.val (.int p0), .val (.long du), .second, .val (.long q), .second, .val (.int p3), .val (.int p4), .val (.ref x), .val w8, .val (.ref y9), .val (.ref t10), .val w11, .unset, .unset, .unset, .unset, .unset, .unset, .unset, .unset, .unset] [w12]) := by
          intro hJ4 w12 q12 Ex B8 B11 B12
          have r12 := B12.ref
          refine C.astore #[.val (.int p0), .val (.long du), .second, .val (.long q), .second, .val (.int p3), .val (.int p4), .val (.ref x), .val w8, .val (.ref y9), .val (.ref t10), .val w11, .val w12, .unset, .unset, .unset, .unset, .unset, .unset, .unset, .unset] at_122 r12 (XS.store1 rfl (Or.inl rfl) (cat_ref r12)) ?_
          refine C.aload at_124 rfl rfl ?_
          refine C.lloadN at_126 rfl ?_
          refine C.aload at_127 rfl r8 ?_
          refine C.aload at_129 rfl rfl ?_
          refine C.aload at_131 rfl r11 ?_
          refine C.aload at_133 rfl r12 ?_
          refine C.callS [.ref x, .long du, w8, .ref t10, w11, w12] [] 0 (B.1 _ (List.mem_of_getElem? (i := 63) rfl)) (B.1 _ (List.mem_of_getElem? (i := 64) rfl)) (B.1 _ (List.mem_of_getElem? (i := 65) rfl)) (B.1 _ (List.mem_of_getElem? (i := 66) rfl)) (by decide) pd__28_Ljava_2f_lang_2f_String_3b_JLjava_2f_lang_2f_Long_3b_Lcom_2f_example_2f_delayed_task_dispatch_2f_delayedtaskdispatch_2f_model_2f_Target_3b_Ljava_2f_lang_2f_String_3b_Ljava_2f_lang_2f_Integer_3b__29_Lcom_2f_example_2f_delayed_task_dispatch_2f_delayedtaskdispatch_2f_model_2f_Task_3b_ rfl id (c_pend B (x := x) (t := t10) (du := du) r8 r11 r12 (cat_ref r8) (cat_ref r11) (cat_ref r12)) at_135 rfl rfl rfl (by decide) (by decide) (by decide) (by decide) all0 fun v7 h7 z7 K7 q7 => ?_
          obtain ⟨a, rfl, Ea, G0, G1, G2, G3, G4, G5, G6, G7, G8⟩ := q7
          show C.W h7 [] 23 409 (mkF K.m 138 #[.val (.int p0), .val (.long du), .second, .val (.long q), .second, .val (.int p3), .val (.int p4), .val (.ref x), .val w8, .val (.ref y9), .val (.ref t10), .val w11, .val w12, .unset, .unset, .unset, .unset, .unset, .unset, .unset, .unset] [.ref a])
          refine C.astore #[.val (.int p0), .val (.long du), .second, .val (.long q), .second, .val (.int p3), .val (.int p4), .val (.ref x), .val w8, .val (.ref y9), .val (.ref t10), .val w11, .val w12, .val (.ref a), .unset, .unset, .unset, .unset, .unset, .unset, .unset] at_138 rfl rfl ?_
          refine C.aload at_140 rfl rfl ?_
          refine C.callV a [] [] 0 (B.1 _ (List.mem_of_getElem? (i := 94) rfl)) (B.1 _ (List.mem_of_getElem? (i := 95) rfl)) (B.1 _ (List.mem_of_getElem? (i := 97) rfl)) (B.1 _ (List.mem_of_getElem? (i := 96) rfl)) (by decide) rfl Ea pd__28__29_Ljava_2f_lang_2f_String_3b_ rfl id (c_gid B G0) at_142 rfl rfl rfl (by decide) (by decide) (by decide) (by decide) all0 fun v8 h8 z8 K8 q8 => ?_
          obtain ⟨rfl, rfl⟩ := q8
          show C.W h7 [] 23 409 (mkF K.m 145 #[.val (.int p0), .val (.long du), .second, .val (.long q), .second, .val (.int p3), .val (.int p4), .val (.ref x), .val w8, .val (.ref y9), .val (.ref t10), .val w11, .val w12, .val (.ref a), .unset, .unset, .unset, .unset, .unset, .unset, .unset] [.ref x])
          refine C.aload at_145 rfl rfl ?_
          have Ex_10 := (Ex.keep K7)
          refine C.callV x [.ref x] [] 0 (B.1 _ (List.mem_of_getElem? (i := 99) rfl)) (B.1 _ (List.mem_of_getElem? (i := 100) rfl)) (B.1 _ (List.mem_of_getElem? (i := 102) rfl)) (B.1 _ (List.mem_of_getElem? (i := 101) rfl)) (by decide) rfl Ex_10 pd__28_Ljava_2f_lang_2f_Object_3b__29_Z rfl id (c_eqself B (x := x)) at_147 rfl rfl rfl (by decide) (by decide) (by decide) (by decide) all0 fun v9 h9 z9 K9 q9 => ?_
          obtain ⟨rfl, rfl⟩ := q9
          show C.W h7 [] 23 409 (mkF K.m 150 #[.val (.int p0), .val (.long du), .second, .val (.long q), .second, .val (.int p3), .val (.int p4), .val (.ref x), .val w8, .val (.ref y9), .val (.ref t10), .val w11, .val w12, .val (.ref a), .unset, .unset, .unset, .unset, .unset, .unset, .unset] [.int (1 : Int32)])
          refine C.ifc_eq 204 at_150 (by decide) (by decide) (fun q11 => ?_) (fun q11 => ?_)
          · exfalso; revert q11; decide
          · refine C.aload at_153 rfl rfl ?_
            refine C.callV a [] [] 0 (B.1 _ (List.mem_of_getElem? (i := 104) rfl)) (B.1 _ (List.mem_of_getElem? (i := 105) rfl)) (B.1 _ (List.mem_of_getElem? (i := 107) rfl)) (B.1 _ (List.mem_of_getElem? (i := 106) rfl)) (by decide) rfl Ea pd__28__29_J rfl id (c_gdueAt B G1) at_155 rfl rfl rfl (by decide) (by decide) (by decide) (by decide) all0 fun v12 h12 z12 K12 q12 => ?_
            obtain ⟨rfl, rfl⟩ := q12
            show C.W h7 [] 23 409 (mkF K.m 158 #[.val (.int p0), .val (.long du), .second, .val (.long q), .second, .val (.int p3), .val (.int p4), .val (.ref x), .val w8, .val (.ref y9), .val (.ref t10), .val w11, .val w12, .val (.ref a), .unset, .unset, .unset, .unset, .unset, .unset, .unset] [.long du])
            refine C.lloadN at_158 rfl ?_
            refine C.lcmp at_159 ?_
            refine C.ifc_ne 204 at_160 (by decide) (by decide) (fun q13 => ?_) (fun q13 => ?_)
            · exfalso; exact q13 (lcmp_self du)
            · refine C.aload at_163 rfl rfl ?_
              refine C.callV a [] [] 0 (B.1 _ (List.mem_of_getElem? (i := 109) rfl)) (B.1 _ (List.mem_of_getElem? (i := 110) rfl)) (B.1 _ (List.mem_of_getElem? (i := 112) rfl)) (B.1 _ (List.mem_of_getElem? (i := 111) rfl)) (by decide) rfl Ea pd__28__29_Lcom_2f_example_2f_delayed_task_dispatch_2f_delayedtaskdispatch_2f_model_2f_Target_3b_ rfl id (c_gtarget B G3) at_165 rfl rfl rfl (by decide) (by decide) (by decide) (by decide) all0 fun v14 h14 z14 K14 q14 => ?_
              obtain ⟨rfl, rfl⟩ := q14
              show C.W h7 [] 23 409 (mkF K.m 168 #[.val (.int p0), .val (.long du), .second, .val (.long q), .second, .val (.int p3), .val (.int p4), .val (.ref x), .val w8, .val (.ref y9), .val (.ref t10), .val w11, .val w12, .val (.ref a), .unset, .unset, .unset, .unset, .unset, .unset, .unset] [.ref t10])
              refine C.aload at_168 rfl rfl ?_
              refine C.acmp 173 true at_170 rfl rfl (by simp) (by decide) (by decide) ?_
              refine C.aload at_173 rfl rfl ?_
              refine C.callV a [] [] 0 (B.1 _ (List.mem_of_getElem? (i := 114) rfl)) (B.1 _ (List.mem_of_getElem? (i := 115) rfl)) (B.1 _ (List.mem_of_getElem? (i := 117) rfl)) (B.1 _ (List.mem_of_getElem? (i := 116) rfl)) (by decide) rfl Ea pd__28__29_Lcom_2f_example_2f_delayed_task_dispatch_2f_delayedtaskdispatch_2f_model_2f_TaskState_3b_ rfl id (c_gstate B G6) at_175 rfl rfl rfl (by decide) (by decide) (by decide) (by decide) all0 fun v15 h15 z15 K15 q15 => ?_
              obtain ⟨rfl, rfl⟩ := q15
              show C.W h7 [] 23 409 (mkF K.m 178 #[.val (.int p0), .val (.long du), .second, .val (.long q), .second, .val (.int p3), .val (.int p4), .val (.ref x), .val w8, .val (.ref y9), .val (.ref t10), .val w11, .val w12, .val (.ref a), .unset, .unset, .unset, .unset, .unset, .unset, .unset] [.ref kP])
              refine C.getS (B.1 _ (List.mem_of_getElem? (i := 119) rfl)) Via.refl B.2.2.2.2.1 at_178 ?_
              refine C.acmp 184 true at_181 rfl rfl (by simp) (by decide) (by decide) ?_
              refine C.aload at_184 rfl rfl ?_
              refine C.callV a [] [] 0 (B.1 _ (List.mem_of_getElem? (i := 120) rfl)) (B.1 _ (List.mem_of_getElem? (i := 121) rfl)) (B.1 _ (List.mem_of_getElem? (i := 123) rfl)) (B.1 _ (List.mem_of_getElem? (i := 122) rfl)) (by decide) rfl Ea pd__28__29_I rfl id (c_gattempts B G7) at_186 rfl rfl rfl (by decide) (by decide) (by decide) (by decide) all0 fun v16 h16 z16 K16 q16 => ?_
              obtain ⟨rfl, rfl⟩ := q16
              show C.W h7 [] 23 409 (mkF K.m 189 #[.val (.int p0), .val (.long du), .second, .val (.long q), .second, .val (.int p3), .val (.int p4), .val (.ref x), .val w8, .val (.ref y9), .val (.ref t10), .val w11, .val w12, .val (.ref a), .unset, .unset, .unset, .unset, .unset, .unset, .unset] [.int 0])
              refine C.ifc_ne 204 at_189 (by decide) (by decide) (fun q17 => ?_) (fun q17 => ?_)
              · exfalso; exact q17 rfl
              · refine C.aload at_192 rfl rfl ?_
                refine C.callV a [] [] 0 (B.1 _ (List.mem_of_getElem? (i := 125) rfl)) (B.1 _ (List.mem_of_getElem? (i := 126) rfl)) (B.1 _ (List.mem_of_getElem? (i := 128) rfl)) (B.1 _ (List.mem_of_getElem? (i := 127) rfl)) (by decide) rfl Ea pd__28__29_Ljava_2f_lang_2f_String_3b_ rfl id (c_glastError B G8) at_194 rfl rfl rfl (by decide) (by decide) (by decide) (by decide) all0 fun v18 h18 z18 K18 q18 => ?_
                obtain ⟨rfl, rfl⟩ := q18
                show C.W h7 [] 23 409 (mkF K.m 197 #[.val (.int p0), .val (.long du), .second, .val (.long q), .second, .val (.int p3), .val (.int p4), .val (.ref x), .val w8, .val (.ref y9), .val (.ref t10), .val w11, .val w12, .val (.ref a), .unset, .unset, .unset, .unset, .unset, .unset, .unset] [.null])
                refine C.ifnonnullN at_197 ?_
                refine C.iconst (v := (1 : Int32)) at_200 (by first | rfl | decide) ?_
                refine C.goto 205 at_201 (by decide) (by decide) ?_
                refine C.istore #[.val (.int p0), .val (.long du), .second, .val (.long q), .second, .val (.int p3), .val (.int p4), .val (.ref x), .val w8, .val (.ref y9), .val (.ref t10), .val w11, .val w12, .val (.ref a), .val (.int (1 : Int32)), .unset, .unset, .unset, .unset, .unset, .unset] at_205 rfl ?_
                refine C.aload at_207 rfl rfl ?_
                refine C.callV a [] [] 0 (B.1 _ (List.mem_of_getElem? (i := 130) rfl)) (B.1 _ (List.mem_of_getElem? (i := 131) rfl)) (B.1 _ (List.mem_of_getElem? (i := 133) rfl)) (B.1 _ (List.mem_of_getElem? (i := 132) rfl)) (by decide) rfl Ea pd__28__29_Ljava_2f_lang_2f_Long_3b_ rfl id (c_gdelayMs B r8 G2) at_209 rfl rfl rfl (by decide) (by decide) (by decide) (by decide) all0 fun v19 h19 z19 K19 q19 => ?_
                obtain ⟨rfl, rfl⟩ := q19
                show C.W h7 [] 23 409 (mkF K.m 212 #[.val (.int p0), .val (.long du), .second, .val (.long q), .second, .val (.int p3), .val (.int p4), .val (.ref x), .val w8, .val (.ref y9), .val (.ref t10), .val w11, .val w12, .val (.ref a), .val (.int (1 : Int32)), .unset, .unset, .unset, .unset, .unset, .unset] [w8])
                refine C.astore #[.val (.int p0), .val (.long du), .second, .val (.long q), .second, .val (.int p3), .val (.int p4), .val (.ref x), .val w8, .val (.ref y9), .val (.ref t10), .val w11, .val w12, .val (.ref a), .val (.int (1 : Int32)), .val w8, .unset, .unset, .unset, .unset, .unset] at_212 r8 (XS.store1 rfl (Or.inl rfl) (cat_ref r8)) ?_
                refine C.aload at_214 rfl r8 ?_
                have J20 : C.W h7 [] 23 409 (mkF K.m 252 #[.val (.int p0), .val (.long du), .second, .val (.long q), .second, .val (.int p3), .val (.int p4), .val (.ref x), .val w8, .val (.ref y9), .val (.ref t10), .val w11, .val w12, .val (.ref a), .val (.int (1 : Int32)), .val w8, .unset, .unset, .unset, .unset, .unset] [.int (1 : Int32)]) := by
                  refine C.istore #[.val (.int p0), .val (.long du), .second, .val (.long q), .second, .val (.int p3), .val (.int p4), .val (.ref x), .val w8, .val (.ref y9), .val (.ref t10), .val w11, .val w12, .val (.ref a), .val (.int (1 : Int32)), .val w8, .val (.int (1 : Int32)), .unset, .unset, .unset, .unset] at_252 rfl ?_
                  refine C.aload at_254 rfl rfl ?_
                  refine C.callV a [] [] 0 (B.1 _ (List.mem_of_getElem? (i := 135) rfl)) (B.1 _ (List.mem_of_getElem? (i := 136) rfl)) (B.1 _ (List.mem_of_getElem? (i := 138) rfl)) (B.1 _ (List.mem_of_getElem? (i := 137) rfl)) (by decide) rfl Ea pd__28__29_Ljava_2f_lang_2f_String_3b_ rfl id (c_gpayload B r11 G4) at_256 rfl rfl rfl (by decide) (by decide) (by decide) (by decide) all0 fun v21 h21 z21 K21 q21 => ?_
                  obtain ⟨rfl, rfl⟩ := q21
                  show C.W h7 [] 23 409 (mkF K.m 259 #[.val (.int p0), .val (.long du), .second, .val (.long q), .second, .val (.int p3), .val (.int p4), .val (.ref x), .val w8, .val (.ref y9), .val (.ref t10), .val w11, .val w12, .val (.ref a), .val (.int (1 : Int32)), .val w8, .val (.int (1 : Int32)), .unset, .unset, .unset, .unset] [w11])
                  refine C.astore #[.val (.int p0), .val (.long du), .second, .val (.long q), .second, .val (.int p3), .val (.int p4), .val (.ref x), .val w8, .val (.ref y9), .val (.ref t10), .val w11, .val w12, .val (.ref a), .val (.int (1 : Int32)), .val w8, .val (.int (1 : Int32)), .val w11, .unset, .unset, .unset] at_259 r11 (XS.store1 rfl (Or.inl rfl) (cat_ref r11)) ?_
                  refine C.aload at_261 rfl r11 ?_
                  have J22 : C.W h7 [] 23 409 (mkF K.m 299 #[.val (.int p0), .val (.long du), .second, .val (.long q), .second, .val (.int p3), .val (.int p4), .val (.ref x), .val w8, .val (.ref y9), .val (.ref t10), .val w11, .val w12, .val (.ref a), .val (.int (1 : Int32)), .val w8, .val (.int (1 : Int32)), .val w11, .unset, .unset, .unset] [.int (1 : Int32)]) := by
                    refine C.istore #[.val (.int p0), .val (.long du), .second, .val (.long q), .second, .val (.int p3), .val (.int p4), .val (.ref x), .val w8, .val (.ref y9), .val (.ref t10), .val w11, .val w12, .val (.ref a), .val (.int (1 : Int32)), .val w8, .val (.int (1 : Int32)), .val w11, .val (.int (1 : Int32)), .unset, .unset] at_299 rfl ?_
                    refine C.aload at_301 rfl rfl ?_
                    refine C.callV a [] [] 0 (B.1 _ (List.mem_of_getElem? (i := 140) rfl)) (B.1 _ (List.mem_of_getElem? (i := 141) rfl)) (B.1 _ (List.mem_of_getElem? (i := 143) rfl)) (B.1 _ (List.mem_of_getElem? (i := 142) rfl)) (by decide) rfl Ea pd__28__29_Ljava_2f_lang_2f_Integer_3b_ rfl id (c_gmaxAttempts B r12 G5) at_303 rfl rfl rfl (by decide) (by decide) (by decide) (by decide) all0 fun v23 h23 z23 K23 q23 => ?_
                    obtain ⟨rfl, rfl⟩ := q23
                    show C.W h7 [] 23 409 (mkF K.m 306 #[.val (.int p0), .val (.long du), .second, .val (.long q), .second, .val (.int p3), .val (.int p4), .val (.ref x), .val w8, .val (.ref y9), .val (.ref t10), .val w11, .val w12, .val (.ref a), .val (.int (1 : Int32)), .val w8, .val (.int (1 : Int32)), .val w11, .val (.int (1 : Int32)), .unset, .unset] [w12])
                    refine C.astore #[.val (.int p0), .val (.long du), .second, .val (.long q), .second, .val (.int p3), .val (.int p4), .val (.ref x), .val w8, .val (.ref y9), .val (.ref t10), .val w11, .val w12, .val (.ref a), .val (.int (1 : Int32)), .val w8, .val (.int (1 : Int32)), .val w11, .val (.int (1 : Int32)), .val w12, .unset] at_306 r12 (XS.store1 rfl (Or.inl rfl) (cat_ref r12)) ?_
                    refine C.aload at_308 rfl r12 ?_
                    have J24 : C.W h7 [] 23 409 (mkF K.m 349 #[.val (.int p0), .val (.long du), .second, .val (.long q), .second, .val (.int p3), .val (.int p4), .val (.ref x), .val w8, .val (.ref y9), .val (.ref t10), .val w11, .val w12, .val (.ref a), .val (.int (1 : Int32)), .val w8, .val (.int (1 : Int32)), .val w11, .val (.int (1 : Int32)), .val w12, .unset] [.int (1 : Int32)]) := by
                      refine C.istore #[.val (.int p0), .val (.long du), .second, .val (.long q), .second, .val (.int p3), .val (.int p4), .val (.ref x), .val w8, .val (.ref y9), .val (.ref t10), .val w11, .val w12, .val (.ref a), .val (.int (1 : Int32)), .val w8, .val (.int (1 : Int32)), .val w11, .val (.int (1 : Int32)), .val w12, .val (.int (1 : Int32))] at_349 rfl ?_
                      refine C.iload at_351 rfl ?_
                      refine C.ifc_eq 375 at_353 (by decide) (by decide) (fun q25 => ?_) (fun q25 => ?_)
                      · exfalso; revert q25; decide
                      · refine C.iload at_356 rfl ?_
                        refine C.ifc_eq 375 at_358 (by decide) (by decide) (fun q26 => ?_) (fun q26 => ?_)
                        · exfalso; revert q26; decide
                        · refine C.iload at_361 rfl ?_
                          refine C.ifc_eq 375 at_363 (by decide) (by decide) (fun q27 => ?_) (fun q27 => ?_)
                          · exfalso; revert q27; decide
                          · refine C.iload at_366 rfl ?_
                            refine C.ifc_eq 375 at_368 (by decide) (by decide) (fun q28 => ?_) (fun q28 => ?_)
                            · exfalso; revert q28; decide
                            · refine C.iconst (v := (1 : Int32)) at_371 (by first | rfl | decide) ?_
                              refine C.goto 376 at_372 (by decide) (by decide) ?_
                              exact C.ireturn (t := .boolean) rfl (by simp) rfl at_376 (by decide) (by decide) rfl
                    have B12_29 := (B12.keep K7 all0)
                    rcases B12_29 with rfl | ⟨a12, rfl, E12, F12⟩
                    · skip
                      show C.W h7 [] 23 409 (mkF K.m 310 #[.val (.int p0), .val (.long du), .second, .val (.long q), .second, .val (.int p3), .val (.int p4), .val (.ref x), .val w8, .val (.ref y9), .val (.ref t10), .val w11, .val .null, .val (.ref a), .val (.int (1 : Int32)), .val w8, .val (.int (1 : Int32)), .val w11, .val (.int (1 : Int32)), .val .null, .unset] [.null])
                      refine C.ifnonnullN at_310 ?_
                      refine C.aload at_313 rfl rfl ?_
                      refine C.ifnonnullN at_315 ?_
                      refine C.iconst (v := (1 : Int32)) at_318 (by first | rfl | decide) ?_
                      refine C.goto 349 at_319 (by decide) (by decide) ?_
                      exact J24
                    · skip
                      show C.W h7 [] 23 409 (mkF K.m 310 #[.val (.int p0), .val (.long du), .second, .val (.long q), .second, .val (.int p3), .val (.int p4), .val (.ref x), .val w8, .val (.ref y9), .val (.ref t10), .val w11, .val (.ref a12), .val (.ref a), .val (.int (1 : Int32)), .val w8, .val (.int (1 : Int32)), .val w11, .val (.int (1 : Int32)), .val (.ref a12), .unset] [.ref a12])
                      refine C.ifnonnullY 326 at_310 (by decide) (by decide) ?_
                      refine C.aload at_326 rfl rfl ?_
                      refine C.ifnullN at_328 ?_
                      refine C.aload at_331 rfl rfl ?_
                      refine C.callV a12 [] [] 0 (B.1 _ (List.mem_of_getElem? (i := 193) rfl)) (B.1 _ (List.mem_of_getElem? (i := 194) rfl)) (B.1 _ (List.mem_of_getElem? (i := 196) rfl)) (B.1 _ (List.mem_of_getElem? (i := 195) rfl)) (by decide) rfl E12 pd__28__29_I rfl id (c_igv B F12) at_333 rfl rfl rfl (by decide) (by decide) (by decide) (by decide) all0 fun v30 h30 z30 K30 q30 => ?_
                      obtain ⟨rfl, rfl⟩ := q30
                      show C.W h7 [] 23 409 (mkF K.m 336 #[.val (.int p0), .val (.long du), .second, .val (.long q), .second, .val (.int p3), .val (.int p4), .val (.ref x), .val w8, .val (.ref y9), .val (.ref t10), .val w11, .val (.ref a12), .val (.ref a), .val (.int (1 : Int32)), .val w8, .val (.int (1 : Int32)), .val w11, .val (.int (1 : Int32)), .val (.ref a12), .unset] [.int q12])
                      refine C.aload at_336 rfl rfl ?_
                      refine C.callV a12 [] [.int q12] 1 (B.1 _ (List.mem_of_getElem? (i := 193) rfl)) (B.1 _ (List.mem_of_getElem? (i := 194) rfl)) (B.1 _ (List.mem_of_getElem? (i := 196) rfl)) (B.1 _ (List.mem_of_getElem? (i := 195) rfl)) (by decide) rfl E12 pd__28__29_I rfl id (c_igv B F12) at_338 rfl rfl rfl (by decide) (by decide) (by decide) (by decide) all0 fun v31 h31 z31 K31 q31 => ?_
                      obtain ⟨rfl, rfl⟩ := q31
                      show C.W h7 [] 23 409 (mkF K.m 341 #[.val (.int p0), .val (.long du), .second, .val (.long q), .second, .val (.int p3), .val (.int p4), .val (.ref x), .val w8, .val (.ref y9), .val (.ref t10), .val w11, .val (.ref a12), .val (.ref a), .val (.int (1 : Int32)), .val w8, .val (.int (1 : Int32)), .val w11, .val (.int (1 : Int32)), .val (.ref a12), .unset] [.int q12, .int q12])
                      refine C.icmp_ne 348 at_341 (by decide) (by decide) (fun q32 => ?_) (fun q32 => ?_)
                      · exfalso; exact q32 rfl
                      · refine C.iconst (v := (1 : Int32)) at_344 (by first | rfl | decide) ?_
                        refine C.goto 349 at_345 (by decide) (by decide) ?_
                        exact J24
                  have B11_33 := (B11.keep K7)
                  rcases B11_33 with rfl | ⟨a11, rfl, E11⟩
                  · skip
                    show C.W h7 [] 23 409 (mkF K.m 263 #[.val (.int p0), .val (.long du), .second, .val (.long q), .second, .val (.int p3), .val (.int p4), .val (.ref x), .val w8, .val (.ref y9), .val (.ref t10), .val .null, .val w12, .val (.ref a), .val (.int (1 : Int32)), .val w8, .val (.int (1 : Int32)), .val .null, .unset, .unset, .unset] [.null])
                    refine C.ifnonnullN at_263 ?_
                    refine C.aload at_266 rfl rfl ?_
                    refine C.ifnonnullN at_268 ?_
                    refine C.iconst (v := (1 : Int32)) at_271 (by first | rfl | decide) ?_
                    refine C.goto 299 at_272 (by decide) (by decide) ?_
                    exact J22
                  · skip
                    show C.W h7 [] 23 409 (mkF K.m 263 #[.val (.int p0), .val (.long du), .second, .val (.long q), .second, .val (.int p3), .val (.int p4), .val (.ref x), .val w8, .val (.ref y9), .val (.ref t10), .val (.ref a11), .val w12, .val (.ref a), .val (.int (1 : Int32)), .val w8, .val (.int (1 : Int32)), .val (.ref a11), .unset, .unset, .unset] [.ref a11])
                    refine C.ifnonnullY 279 at_263 (by decide) (by decide) ?_
                    refine C.aload at_279 rfl rfl ?_
                    refine C.ifnullN at_281 ?_
                    refine C.aload at_284 rfl rfl ?_
                    refine C.aload at_286 rfl rfl ?_
                    refine C.callV a11 [.ref a11] [] 0 (B.1 _ (List.mem_of_getElem? (i := 99) rfl)) (B.1 _ (List.mem_of_getElem? (i := 100) rfl)) (B.1 _ (List.mem_of_getElem? (i := 102) rfl)) (B.1 _ (List.mem_of_getElem? (i := 101) rfl)) (by decide) rfl E11 pd__28_Ljava_2f_lang_2f_Object_3b__29_Z rfl id (c_eqself B (x := a11)) at_288 rfl rfl rfl (by decide) (by decide) (by decide) (by decide) all0 fun v34 h34 z34 K34 q34 => ?_
                    obtain ⟨rfl, rfl⟩ := q34
                    show C.W h7 [] 23 409 (mkF K.m 291 #[.val (.int p0), .val (.long du), .second, .val (.long q), .second, .val (.int p3), .val (.int p4), .val (.ref x), .val w8, .val (.ref y9), .val (.ref t10), .val (.ref a11), .val w12, .val (.ref a), .val (.int (1 : Int32)), .val w8, .val (.int (1 : Int32)), .val (.ref a11), .unset, .unset, .unset] [.int (1 : Int32)])
                    refine C.ifc_eq 298 at_291 (by decide) (by decide) (fun q35 => ?_) (fun q35 => ?_)
                    · exfalso; revert q35; decide
                    · refine C.iconst (v := (1 : Int32)) at_294 (by first | rfl | decide) ?_
                      refine C.goto 299 at_295 (by decide) (by decide) ?_
                      exact J22
                have B8_36 := (B8.keep K7 all0)
                rcases B8_36 with rfl | ⟨a8, rfl, E8, F8⟩
                · skip
                  show C.W h7 [] 23 409 (mkF K.m 216 #[.val (.int p0), .val (.long du), .second, .val (.long q), .second, .val (.int p3), .val (.int p4), .val (.ref x), .val .null, .val (.ref y9), .val (.ref t10), .val w11, .val w12, .val (.ref a), .val (.int (1 : Int32)), .val .null, .unset, .unset, .unset, .unset, .unset] [.null])
                  refine C.ifnonnullN at_216 ?_
                  refine C.aload at_219 rfl rfl ?_
                  refine C.ifnonnullN at_221 ?_
                  refine C.iconst (v := (1 : Int32)) at_224 (by first | rfl | decide) ?_
                  refine C.goto 252 at_225 (by decide) (by decide) ?_
                  exact J20
                · skip
                  show C.W h7 [] 23 409 (mkF K.m 216 #[.val (.int p0), .val (.long du), .second, .val (.long q), .second, .val (.int p3), .val (.int p4), .val (.ref x), .val (.ref a8), .val (.ref y9), .val (.ref t10), .val w11, .val w12, .val (.ref a), .val (.int (1 : Int32)), .val (.ref a8), .unset, .unset, .unset, .unset, .unset] [.ref a8])
                  refine C.ifnonnullY 232 at_216 (by decide) (by decide) ?_
                  refine C.aload at_232 rfl rfl ?_
                  refine C.ifnullN at_234 ?_
                  refine C.aload at_237 rfl rfl ?_
                  refine C.callV a8 [] [] 0 (B.1 _ (List.mem_of_getElem? (i := 188) rfl)) (B.1 _ (List.mem_of_getElem? (i := 189) rfl)) (B.1 _ (List.mem_of_getElem? (i := 191) rfl)) (B.1 _ (List.mem_of_getElem? (i := 190) rfl)) (by decide) rfl E8 pd__28__29_J rfl id (c_lgv B F8) at_239 rfl rfl rfl (by decide) (by decide) (by decide) (by decide) all0 fun v37 h37 z37 K37 q37 => ?_
                  obtain ⟨rfl, rfl⟩ := q37
                  show C.W h7 [] 23 409 (mkF K.m 242 #[.val (.int p0), .val (.long du), .second, .val (.long q), .second, .val (.int p3), .val (.int p4), .val (.ref x), .val (.ref a8), .val (.ref y9), .val (.ref t10), .val w11, .val w12, .val (.ref a), .val (.int (1 : Int32)), .val (.ref a8), .unset, .unset, .unset, .unset, .unset] [.long q])
                  refine C.lloadN at_242 rfl ?_
                  refine C.lcmp at_243 ?_
                  refine C.ifc_ne 251 at_244 (by decide) (by decide) (fun q38 => ?_) (fun q38 => ?_)
                  · exfalso; exact q38 (lcmp_self q)
                  · refine C.iconst (v := (1 : Int32)) at_247 (by first | rfl | decide) ?_
                    refine C.goto 252 at_248 (by decide) (by decide) ?_
                    exact J20
        refine C.ifc_eq 121 at_100 (by decide) (by decide) (fun q39 => ?_) (fun q39 => ?_)
        · refine C.aconstNull at_121 ?_
          exact C.more (by decide) (by decide) (C.sub all0 (J6 _ .null 0 Ex B8 B11 (Or.inl rfl)))
        · refine C.iload at_103 rfl ?_
          refine C.iconst (v := (4 : Int32)) at_105 (by first | rfl | decide) ?_
          refine C.iushr at_106 ?_
          refine C.ldcInt (v := (268435455 : Int32)) (B.1 _ (List.mem_of_getElem? (i := 180) rfl)) at_107 ?_
          refine C.iand at_109 ?_
          refine C.bipush (v := (100 : Int32)) at_110 (by first | rfl | decide) ?_
          refine C.irem (by decide) at_112 ?_
          refine C.iconst (v := (1 : Int32)) at_113 (by first | rfl | decide) ?_
          refine C.iadd at_114 ?_
          obtain ⟨m, e_m⟩ : ∃ z, ((((p4.toUInt32 >>> ((4 : Int32) &&& 31).toUInt32).toInt32 &&& (268435455 : Int32)) % (100 : Int32)) + (1 : Int32)) = z := ⟨_, rfl⟩
          refine C.topI e_m ?_
          have hm : 1 ≤ m.toInt ∧ m.toInt ≤ 100 := by
            have z := rem_pos (y := 100) 100 (c_and (p4.toUInt32 >>> ((4 : Int32) &&& 31).toUInt32).toInt32 268435455 (by decide)).1 (by decide) (by decide)
            have k1 : (1 : Int32).toInt = 1 := by decide
            rw [← e_m, add_int (by omega) (by omega), k1]
            omega
          refine C.callS [.int m] [] 0 (B.1 _ (List.mem_of_getElem? (i := 181) rfl)) (B.1 _ (List.mem_of_getElem? (i := 182) rfl)) (B.1 _ (List.mem_of_getElem? (i := 183) rfl)) (B.1 _ (List.mem_of_getElem? (i := 184) rfl)) (by decide) pd__28_I_29_Ljava_2f_lang_2f_Integer_3b_ rfl id (c_igof B hm) at_115 rfl rfl rfl (by decide) (by decide) (by decide) (by decide) all0 fun v40 h40 z40 K40 q40 => ?_
          obtain ⟨b, rfl, Eb, Fb, rfl⟩ := q40
          show C.W hJ3 [] 22 300 (mkF K.m 118 #[.val (.int p0), .val (.long du), .second, .val (.long q), .second, .val (.int p3), .val (.int p4), .val (.ref x), .val w8, .val (.ref y9), .val (.ref t10), .val w11, .unset, .unset, .unset, .unset, .unset, .unset, .unset, .unset, .unset] [.ref b])
          refine C.goto 122 at_118 (by decide) (by decide) ?_
          exact C.more (by decide) (by decide) (C.sub all0 (J6 _ _ m Ex B8 B11 (Or.inr ⟨b, rfl, Eb, Fb⟩)))
      refine C.ifc_eq 92 at_70 (by decide) (by decide) (fun q41 => ?_) (fun q41 => ?_)
      · refine C.aconstNull at_92 ?_
        exact C.more (by decide) (by decide) (C.sub all0 (J5 _ .null Ex B8 (Or.inl rfl)))
      · refine C.iload at_73 rfl ?_
        refine C.iload at_75 rfl ?_
        refine C.bipush (v := (16 : Int32)) at_77 (by first | rfl | decide) ?_
        refine C.iushr at_79 ?_
        refine C.sipush (v := (255 : Int32)) at_80 (by first | rfl | decide) ?_
        refine C.iand at_83 ?_
        refine C.iconst (v := (3 : Int32)) at_84 (by first | rfl | decide) ?_
        refine C.irem (by decide) at_85 ?_
        refine C.callS [.int p3, .int (((p3.toUInt32 >>> ((16 : Int32) &&& 31).toUInt32).toInt32 &&& (255 : Int32)) % (3 : Int32))] [] 0 (B.1 _ (List.mem_of_getElem? (i := 0) rfl)) (B.1 _ (List.mem_of_getElem? (i := 1) rfl)) (B.1 _ (List.mem_of_getElem? (i := 2) rfl)) (B.1 _ (List.mem_of_getElem? (i := 3) rfl)) (by decide) pd__28_II_29_Ljava_2f_lang_2f_String_3b_ rfl id (c_draw B trivial) at_86 rfl rfl rfl (by decide) (by decide) (by decide) (by decide) all0 fun v42 h42 z42 K42 q42 => ?_
        obtain ⟨y, rfl, Ey⟩ := q42
        show C.W h42 [] 20 214 (mkF K.m 89 #[.val (.int p0), .val (.long du), .second, .val (.long q), .second, .val (.int p3), .val (.int p4), .val (.ref x), .val w8, .val (.ref y9), .val (.ref t10), .unset, .unset, .unset, .unset, .unset, .unset, .unset, .unset, .unset, .unset] [.ref y])
        refine C.goto 93 at_89 (by decide) (by decide) ?_
        have Ex_43 := (Ex.keep K42)
        have B8_44 := (B8.keep K42 all0)
        exact C.more (by decide) (by decide) (C.sub all0 (J5 _ _ Ex_43 B8_44 (Or.inr ⟨y, rfl, Ey⟩)))
    refine C.ifc_eq 59 at_48 (by decide) (by decide) (fun q45 => ?_) (fun q45 => ?_)
    · refine C.aload at_59 rfl rfl ?_
      refine C.callS [.ref y9] [] 0 (B.1 _ (List.mem_of_getElem? (i := 145) rfl)) (B.1 _ (List.mem_of_getElem? (i := 146) rfl)) (B.1 _ (List.mem_of_getElem? (i := 43) rfl)) (B.1 _ (List.mem_of_getElem? (i := 147) rfl)) (by decide) pd__28_Ljava_2f_lang_2f_String_3b__29_Lcom_2f_example_2f_delayed_task_dispatch_2f_delayedtaskdispatch_2f_model_2f_Target_3b_ rfl id (c_stream B (x := y9)) at_61 rfl rfl rfl (by decide) (by decide) (by decide) (by decide) all0 fun v46 h46 z46 K46 q46 => ?_
      obtain ⟨t, rfl, lt1, lt2, Et, Fk, Fa⟩ := q46
      show C.W h46 [] 13 107 (mkF K.m 64 #[.val (.int p0), .val (.long du), .second, .val (.long q), .second, .val (.int p3), .val (.int p4), .val (.ref x), .val w8, .val (.ref y9), .unset, .unset, .unset, .unset, .unset, .unset, .unset, .unset, .unset, .unset, .unset] [.ref t])
      have Ex_47 := ((Ex.keep K3).keep K46)
      have B8_48 := ((B8.keep K3 all0).keep K46 all0)
      exact C.more (by decide) (by decide) (C.sub all0 (J4 _ t Ex_47 B8_48))
    · refine C.aload at_51 rfl rfl ?_
      refine C.callS [.ref y9] [] 0 (B.1 _ (List.mem_of_getElem? (i := 41) rfl)) (B.1 _ (List.mem_of_getElem? (i := 42) rfl)) (B.1 _ (List.mem_of_getElem? (i := 43) rfl)) (B.1 _ (List.mem_of_getElem? (i := 44) rfl)) (by decide) pd__28_Ljava_2f_lang_2f_String_3b__29_Lcom_2f_example_2f_delayed_task_dispatch_2f_delayedtaskdispatch_2f_model_2f_Target_3b_ rfl id (c_callback B (x := y9)) at_53 rfl rfl rfl (by decide) (by decide) (by decide) (by decide) all0 fun v49 h49 z49 K49 q49 => ?_
      obtain ⟨t, rfl, lt1, lt2, Et, Fk, Fa⟩ := q49
      show C.W h49 [] 13 107 (mkF K.m 56 #[.val (.int p0), .val (.long du), .second, .val (.long q), .second, .val (.int p3), .val (.int p4), .val (.ref x), .val w8, .val (.ref y9), .unset, .unset, .unset, .unset, .unset, .unset, .unset, .unset, .unset, .unset, .unset] [.ref t])
      refine C.goto 64 at_56 (by decide) (by decide) ?_
      have Ex_50 := ((Ex.keep K3).keep K49)
      have B8_51 := ((B8.keep K3 all0).keep K49 all0)
      exact C.more (by decide) (by decide) (C.sub all0 (J4 _ t Ex_50 B8_51))
  refine C.ifc_eq 26 at_16 (by decide) (by decide) (fun q52 => ?_) (fun q52 => ?_)
  · refine C.aconstNull at_26 ?_
    exact C.more (by decide) (by decide) (C.sub all0 (J2 _ .null Ex (Or.inl rfl)))
  · refine C.lloadN at_19 rfl ?_
    refine C.callS [.long q] [] 0 (B.1 _ (List.mem_of_getElem? (i := 160) rfl)) (B.1 _ (List.mem_of_getElem? (i := 161) rfl)) (B.1 _ (List.mem_of_getElem? (i := 162) rfl)) (B.1 _ (List.mem_of_getElem? (i := 163) rfl)) (by decide) pd__28_J_29_Ljava_2f_lang_2f_Long_3b_ rfl id (c_lgof B (q := q)) at_20 rfl rfl rfl (by decide) (by decide) (by decide) (by decide) all0 fun v53 h53 z53 K53 q53 => ?_
    obtain ⟨b, rfl, Eb, Fb⟩ := q53
    show C.W h53 [] 7 15 (mkF K.m 23 #[.val (.int p0), .val (.long du), .second, .val (.long q), .second, .val (.int p3), .val (.int p4), .val (.ref x), .unset, .unset, .unset, .unset, .unset, .unset, .unset, .unset, .unset, .unset, .unset, .unset, .unset] [.ref b])
    refine C.goto 27 at_23 (by decide) (by decide) ?_
    have Ex_54 := (Ex.keep K53)
    exact C.more (by decide) (by decide) (C.sub all0 (J2 _ _ Ex_54 (Or.inr ⟨b, rfl, Eb, Fb⟩)))
set_option maxRecDepth 65536 in
set_option maxHeartbeats 40000000 in
theorem comes_1 {Post : Tables → Env → Array Value → State → Outcome → State → Prop} (hpost : ∀ tb e args s v u, (limb_1_1.after args s (.returned v) u = true ∧ limb_1_2.after args s (.returned v) u = true ∧ True) → ReturnedEndW s (.returned v) u (Jvm.fieldLocs frame_1_writes args s ++ Jvm.arrayLocs frame_1_arrays args s ++ Jvm.staticLocs frame_1_statics s) 32 1216 → Post tb e args s (.returned v) u) :
    ArmFor flags0 classFile x code maxLocals ret World_1 tables_1 room_1 Calls_1 rest_1 Pre_1 Post := by
  intro l hfl _ _ p e ha hc hk s m args below hf hA hF happ hP
  obtain ⟨hcalls, hrest, hpre⟩ := hP
  obtain ⟨-, -, -, hnamed, -, -, -, hat⟩ := (Spec.applies_iff hf).mp happ
  obtain ⟨hg, hn⟩ := and_e (Cond.before_iff.mp (show (Jvm.Cond.and given_1 narrow_1).before args s = true from hpre))
  obtain ⟨hct, r0⟩ := and_e hg
  obtain ⟨w0, w1, w2, w3, w4, rfl⟩ : ∃ w0 w1 w2 w3 w4 : Value, args = #[w0, w1, w2, w3, w4] := by
    have hs : args.size = 5 := by simpa [Cond.value, given_1] using hct
    obtain ⟨L⟩ := args
    match L, hs with
    | [w0, w1, w2, w3, w4], _ => exact ⟨w0, w1, w2, w3, w4, rfl⟩
  have hw := fun d (hd : d ∈ tables_1) => atoms_spec (ws := Jvm.Cond.code x code maxLocals ret :: tables_1) hat d (List.mem_cons_of_mem _ hd)
  obtain ⟨hsets, hown0⟩ := atoms_of _ (rest_1_c_eq ▸ (show rest_1_c.before _ s = true from hrest))
  have n3 := not_v (Cond.before_iff.mp (hsets _ (List.mem_of_getElem? (i := 2) rfl)))
  obtain ⟨zc, ezc⟩ := is_v (Cond.before_iff.mp (hsets _ (List.mem_of_getElem? (i := 1) rfl)))
  have Szc : Sta s s.heap "java/lang/String" "COMPACT_STRINGS" "Z" (.int zc) := Sta.start ezc (Or.inl (hsets _ (List.mem_of_getElem? (i := 0) rfl)))
  have czc : ¬ (zc = (0 : Int32)) := gotF (Cond.eq_ints ezc (Term.int_eval (0))) n3
  obtain ⟨fm, efm, rfm⟩ := isR_v (Cond.before_iff.mp (hsets _ (List.mem_of_getElem? (i := 8) rfl)))
  have Sfm : Sta s s.heap "jdk/internal/util/Preconditions" "SIOOBE_FORMATTER" "Ljava/util/function/BiFunction;" fm := Sta.start efm (Or.inl (hsets _ (List.mem_of_getElem? (i := 7) rfl)))
  obtain ⟨g0, r1⟩ := and_e r0
  obtain ⟨i0, e0⟩ := is_v g0
  obtain rfl : w0 = (.int i0) := Option.some.inj e0
  obtain ⟨g1, r2⟩ := and_e r1
  obtain ⟨i1, e1⟩ := isL_v g1
  obtain rfl : w1 = (.long i1) := Option.some.inj e1
  obtain ⟨g2, r3⟩ := and_e r2
  obtain ⟨i2, e2⟩ := isL_v g2
  obtain rfl : w2 = (.long i2) := Option.some.inj e2
  obtain ⟨g3, r4⟩ := and_e r3
  obtain ⟨i3, e3⟩ := is_v g3
  obtain rfl : w3 = (.int i3) := Option.some.inj e3
  obtain ⟨i4, e4⟩ := is_v r4
  obtain rfl : w4 = (.int i4) := Option.some.inj e4
  obtain ⟨hn1, hn2⟩ := and_e hn
  obtain ⟨hn2, hn3⟩ := and_e hn2
  obtain ⟨kS, eS⟩ := exa_v hn1
  obtain ⟨kP, eP⟩ := exa_v hn2
  obtain ⟨kT, eT⟩ := exa_v hn3
  have S : Sta s s.heap "com/example/delayed_task_dispatch/delayedtaskdispatch/model/Target$Kind" "CALLBACK" "Lcom/example/delayed_task_dispatch/delayedtaskdispatch/model/Target$Kind;" (.ref kS) := Sta.start eS (Or.inr ⟨(hw _ (List.mem_of_getElem? (i := 48) rfl)), (hw _ (List.mem_of_getElem? (i := 49) rfl))⟩)
  have T : Sta s s.heap "com/example/delayed_task_dispatch/delayedtaskdispatch/model/Target$Kind" "STREAM" "Lcom/example/delayed_task_dispatch/delayedtaskdispatch/model/Target$Kind;" (.ref kT) := Sta.start eT (Or.inr ⟨(hw _ (List.mem_of_getElem? (i := 48) rfl)), (hw _ (List.mem_of_getElem? (i := 149) rfl))⟩)
  have P : Sta s s.heap "com/example/delayed_task_dispatch/delayedtaskdispatch/model/TaskState" "PENDING" "Lcom/example/delayed_task_dispatch/delayedtaskdispatch/model/TaskState;" (.ref kP) := Sta.start eP (Or.inr ⟨(hw _ (List.mem_of_getElem? (i := 70) rfl)), (hw _ (List.mem_of_getElem? (i := 71) rfl))⟩)
  have Ih : Sta s s.heap "java/lang/Integer$IntegerCache" "high" "I" (.int 127) := Sta.start (eqv_i (Term.int_eval (127)) (Cond.before_iff.mp (hsets _ (List.mem_of_getElem? (i := 12) rfl)))) (Or.inl (hsets _ (List.mem_of_getElem? (i := 10) rfl)))
  obtain ⟨ia, ic, eia, ib⟩ := bx_start (s := s) (t := (Term.static "java/lang/Integer$IntegerCache" "cache" "[Ljava/lang/Integer;")) (F := (Term.sub (Term.index 0) (Term.int 128))) (K := "java/lang/Integer") (d := "I") (val := (fun j => .int (j - 128))) (fun _ => by simp only [Term.eval]) (hsets _ (List.mem_of_getElem? (i := 13) rfl)) (hsets _ (List.mem_of_getElem? (i := 15) rfl)) (hsets _ (List.mem_of_getElem? (i := 16) rfl)) (fun X j nn q => eqv_i (sub_f (idx_at nn) (Term.int_eval (128))) q)
  have iS : Sta s s.heap "java/lang/Integer$IntegerCache" "cache" "[Ljava/lang/Integer;" (.ref ia) := Sta.start eia (Or.inr ⟨(hw _ (List.mem_of_getElem? (i := 186) rfl)), (hsets _ (List.mem_of_getElem? (i := 11) rfl))⟩)
  obtain ⟨la, lc, ela, lb⟩ := bx_start (s := s) (t := (Term.static "java/lang/Long$LongCache" "cache" "[Ljava/lang/Long;")) (F := (Term.op1 Unary.i2l (Term.sub (Term.index 0) (Term.int 128)))) (K := "java/lang/Long") (d := "J") (val := (fun j => .long (j - 128).toInt64)) (fun _ => by simp only [Term.eval]) (hsets _ (List.mem_of_getElem? (i := 19) rfl)) (hsets _ (List.mem_of_getElem? (i := 21) rfl)) (hsets _ (List.mem_of_getElem? (i := 22) rfl)) (fun X j nn q => eqv_l (i2l_at (sub_f (idx_at nn) (Term.int_eval (128)))) q)
  have lS : Sta s s.heap "java/lang/Long$LongCache" "cache" "[Ljava/lang/Long;" (.ref la) := Sta.start ela (Or.inl (hsets _ (List.mem_of_getElem? (i := 18) rfl)))
  have B : Base s _ kS kT kP ia ic la lc := ⟨hw, ⟨zc, Szc, czc⟩, S, T, P, Ih, iS, ib, lS, lb⟩
  have hCH : CHv s EL s.vm s.heap := CHv.start (ew B) (fun p hp => hcalls.1 p hp) (hsets _ (List.mem_of_getElem? (i := 2) rfl)) (B.1 _ (List.mem_of_getElem? (i := 19) rfl)) (B.1 _ (List.mem_of_getElem? (i := 5) rfl))
  obtain ⟨n, o, h1, h2, h3, v, L, rfl, ⟨hq, -, N⟩, hC, hR⟩ := m_law (l := l) (n0 := s.heap.size) (h := s.heap) (p0 := i0) (du := i1) (q := i2) (p3 := i3) (p4 := i4) B p e ha hc hk s m _ below hf ((Spec.applies_iff_loose hf).mp happ).1 ⟨rfl, State.Warmed39.refl s, rfl, hCH, Old.start s, fun _ q => nomatch q⟩ trivial
  obtain rfl := hq
  exact ⟨n, _, h1, h2, h3, hpost _ _ _ _ _ _ ⟨Cond.after_iff.mpr rfl, Cond.after_iff.mpr (eq_i res_at (Term.int_eval (1)) rfl), trivial⟩ ⟨hR.1, hR.2.1, hR.2.2.1, (hR.2.2.2.sift fun y hy => Or.inr (N y hy)).mono (by decide) (by decide)⟩⟩
theorem main_1_1 : Claimed_1_1 := comes_1 fun _ _ _ _ _ _ h hF => ⟨h.1, hF⟩
theorem main_1_2 : Claimed_1_2 := comes_1 fun _ _ _ _ _ _ h hF => ⟨h.2.1, hF⟩
end Jvm.Pilot.@@N@@
namespace Jvm.Pilot.@@N@@
open Jvm Jvm.ClassFile Sem Op Lib Jvm.Free Jvm.Stand Jvm.Pilot.@@N@@.Jvm.D
/-! MADE BY PROGRAM (witnessworld.py) out of the Statement's table words and the real class files: 32 classes; the members and pool entries that the words name. The judged class is class 1, her method 2. -/
namespace start1
open Jvm.ClassFile
def u (s : String) : CpInfo := .utf8 (stringToUtf16 s)
/-- a pool by its gaps: so many unusable entries, then the entry; so many at the end -/
def gap : Nat → List CpInfo → List CpInfo
  | 0, r => r
  | n + 1, r => .unusable :: gap n r
def poolList (es : List (Nat × CpInfo)) (last : Nat) : List CpInfo := es.foldr (fun e r => gap e.1 (e.2 :: r)) (gap last [])
def pool (es : List (Nat × CpInfo)) (last : Nat) : Array CpInfo := ⟨poolList es last⟩
def fileOf (pool : Array CpInfo) (this : Nat) (attrs : Array Attribute := #[]) (ms : Array MethodInfo := #[]) (fl : Nat := 33) (sup : Nat := 0) (ifs : Array Nat := #[]) (fds : Array FieldInfo := #[]) : ClassFile where
  minorVersion := 0
  majorVersion := 65
  constantPool := pool
  accessFlags := fl
  thisClass := this
  superClass := sup
  interfaces := ifs
  fields := fds
  methods := ms
  attributes := attrs
def plain (name : String) (sup : Option ClassId) : Class where
  name := name
  kind := .ordinary
  loader := none
  accessFlags := 33
  super := sup
  interfaces := #[]
  cf := none
  fields := #[]
  methods := #[]
  instanceTypes := #[]
  staticTypes := #[]
  resolved := #[]
  callSites := []
  init := .initialized
  statics := none
  mirror := none

def pool0 : Array CpInfo := pool [(5, u "<init>"), (0, u "()V"), (1, .class_ 10), (1, u "java/lang/Object")] 113

def k0c0 : Code := { maxStack := 0, maxLocals := 1, code := object_method_1_code, exceptionTable := #[], attributes := #[] }
def k0m0 : Method := { name := "<init>", desc := "()V", sig := { parameters := [], returnType := none }, accessFlags := 1, code := some k0c0 }
/-- java/lang/Object -/
def k0 : Class := { plain "java/lang/Object" none with
  accessFlags := 33
  interfaces := #[]
  cf := some (fileOf pool0 8 #[] #[{ accessFlags := 1, nameIndex := 5, descriptorIndex := 6, attributes := #[] }] 33 0 #[] #[])
  fields := #[]
  methods := #[k0m0]
  instanceTypes := #[]
  staticTypes := #[]
  resolved := Array.replicate 124 none
  statics := none }

def pool1 : Array CpInfo := pool [(2, .class_ 4), (1, u "java/lang/Object"), (0, u "<init>"), (0, u "()V"), (0, .class_ 8), (0, u "java/lang/String"), (0, .methodref 7 10), (0, .nameAndType 5 11), (0, u "([C)V"), (0, .methodref 13 14), (0, .class_ 15), (0, .nameAndType 16 17), (0, u "com/example/delayed_task_dispatch/delayedtaskdispatch/model/TaskPendingPinLaw"), (0, u "draw"), (0, u "(II)Ljava/lang/String;"), (0, .methodref 19 20), (0, .class_ 21), (0, .nameAndType 22 23), (0, u "java/lang/Long"), (0, u "valueOf"), (0, u "(J)Ljava/lang/Long;"), (0, .methodref 7 25), (0, .nameAndType 22 26), (0, u "(C)Ljava/lang/String;"), (0, .methodref 28 29), (0, .class_ 30), (0, .nameAndType 31 32), (0, u "com/example/delayed_task_dispatch/delayedtaskdispatch/model/Target"), (0, u "callback"), (0, u "(Ljava/lang/String;)Lcom/example/delayed_task_dispatch/delayedtaskdispatch/model/Target;"), (0, .methodref 28 34), (0, .nameAndType 35 32), (0, u "stream"), (0, .integer 268435455), (0, .class_ 38), (0, u "com/example/delayed_task_dispatch/delayedtaskdispatch/model/Task"), (0, .methodref 40 41), (0, .class_ 42), (0, .nameAndType 22 43), (0, u "java/lang/Integer"), (0, u "(I)Ljava/lang/Integer;"), (0, .methodref 37 45), (0, .nameAndType 46 47), (0, u "pending"), (0, u "(Ljava/lang/String;JLjava/lang/Long;Lcom/example/delayed_task_dispatch/delayedtaskdispatch/model/Target;Ljava/lang/String;Ljava/lang/Integer;)Lcom/example/delayed_task_dispatch/delayedtaskdispatch/model/Task;"), (0, .methodref 37 49), (0, .nameAndType 50 51), (0, u "id"), (0, u "()Ljava/lang/String;"), (0, .methodref 7 53), (0, .nameAndType 54 55), (0, u "equals"), (0, u "(Ljava/lang/Object;)Z"), (0, .methodref 37 57), (0, .nameAndType 58 59), (0, u "dueAt"), (0, u "()J"), (0, .methodref 37 61), (0, .nameAndType 62 63), (0, u "target"), (0, u "()Lcom/example/delayed_task_dispatch/delayedtaskdispatch/model/Target;"), (0, .methodref 37 65), (0, .nameAndType 66 67), (0, u "state"), (0, u "()Lcom/example/delayed_task_dispatch/delayedtaskdispatch/model/TaskState;"), (0, .fieldref 69 70), (0, .class_ 71), (0, .nameAndType 72 73), (0, u "com/example/delayed_task_dispatch/delayedtaskdispatch/model/TaskState"), (0, u "PENDING"), (0, u "Lcom/example/delayed_task_dispatch/delayedtaskdispatch/model/TaskState;"), (0, .methodref 37 75), (0, .nameAndType 76 77), (0, u "attempts"), (0, u "()I"), (0, .methodref 37 79), (0, .nameAndType 80 51), (0, u "lastError"), (0, .methodref 37 82), (0, .nameAndType 83 84), (0, u "delayMs"), (0, u "()Ljava/lang/Long;"), (0, .methodref 19 86), (0, .nameAndType 87 59), (0, u "longValue"), (0, .methodref 37 89), (0, .nameAndType 90 51), (0, u "payload"), (0, .methodref 37 92), (0, .nameAndType 93 94), (0, u "maxAttempts"), (0, u "()Ljava/lang/Integer;"), (0, .methodref 40 96), (0, .nameAndType 97 77), (0, u "intValue"), (3, u "law"), (0, u "(IJJII)Z")] 2

def k1m0 : Method := { name := "<init>", desc := "()V", sig := { parameters := [], returnType := none }, accessFlags := 1, code := none }
def k1c1 : Code := { maxStack := 6, maxLocals := 4, code := method_2_code, exceptionTable := #[], attributes := #[] }
def k1m1 : Method := { name := "draw", desc := "(II)Ljava/lang/String;", sig := { parameters := [.int, .int], returnType := some (.object "java/lang/String") }, accessFlags := 10, code := some k1c1 }
def k1c2 : Code := { maxStack := 7, maxLocals := 21, code := code, exceptionTable := #[], attributes := #[] }
def k1m2 : Method := { name := "law", desc := "(IJJII)Z", sig := { parameters := [.int, .long, .long, .int, .int], returnType := some .boolean }, accessFlags := 9, code := some k1c2 }
/-- com/example/delayed_task_dispatch/delayedtaskdispatch/model/TaskPendingPinLaw -/
def k1 : Class := { plain "com/example/delayed_task_dispatch/delayedtaskdispatch/model/TaskPendingPinLaw" (some 0) with
  accessFlags := 49
  interfaces := #[]
  cf := some (fileOf pool1 13 #[] #[{ accessFlags := 1, nameIndex := 5, descriptorIndex := 6, attributes := #[] }, { accessFlags := 10, nameIndex := 16, descriptorIndex := 17, attributes := #[] }, { accessFlags := 9, nameIndex := 101, descriptorIndex := 102, attributes := #[] }] 49 2 #[] #[])
  fields := #[]
  methods := #[k1m0, k1m1, k1m2]
  instanceTypes := #[]
  staticTypes := #[]
  resolved := Array.replicate 105 none
  statics := none }

def pool2 : Array CpInfo := pool [(1, .class_ 2), (0, u "java/io/Serializable"), (0, .class_ 4), (0, u "java/lang/Object")] 2

/-- java/io/Serializable -/
def k2 : Class := { plain "java/io/Serializable" (some 0) with
  accessFlags := 1537
  interfaces := #[]
  cf := some (fileOf pool2 1 #[] #[] 1537 3 #[] #[])
  fields := #[]
  methods := #[]
  instanceTypes := #[]
  staticTypes := #[]
  resolved := Array.replicate 7 none
  statics := none }

def pool3 : Array CpInfo := pool [(1, .class_ 2), (0, u "java/lang/Comparable"), (0, .class_ 4), (0, u "java/lang/Object")] 7

/-- java/lang/Comparable -/
def k3 : Class := { plain "java/lang/Comparable" (some 0) with
  accessFlags := 1537
  interfaces := #[]
  cf := some (fileOf pool3 1 #[] #[] 1537 3 #[] #[])
  fields := #[]
  methods := #[]
  instanceTypes := #[]
  staticTypes := #[]
  resolved := Array.replicate 12 none
  statics := none }

def pool4 : Array CpInfo := pool [(2, .class_ 4), (1, u "java/lang/CharSequence"), (42, .class_ 48), (0, u "java/lang/CharSequence$1CodePointIterator"), (10, .class_ 60), (0, u "java/lang/CharSequence$1CharIterator"), (5, .class_ 67), (0, u "java/lang/Object")] 63

/-- java/lang/CharSequence -/
def k4 : Class := { plain "java/lang/CharSequence" (some 0) with
  accessFlags := 1537
  interfaces := #[]
  cf := some (fileOf pool4 2 #[.nestMembers #[47, 59]] #[] 1537 66 #[] #[])
  fields := #[]
  methods := #[]
  instanceTypes := #[]
  staticTypes := #[]
  resolved := Array.replicate 131 none
  statics := none }

def pool5 : Array CpInfo := pool [(1, .class_ 2), (0, u "java/lang/constant/Constable"), (0, .class_ 4), (0, u "java/lang/Object")] 6

/-- java/lang/constant/Constable -/
def k5 : Class := { plain "java/lang/constant/Constable" (some 0) with
  accessFlags := 1537
  interfaces := #[]
  cf := some (fileOf pool5 1 #[] #[] 1537 3 #[] #[])
  fields := #[]
  methods := #[]
  instanceTypes := #[]
  staticTypes := #[]
  resolved := Array.replicate 11 none
  statics := none }

def pool6 : Array CpInfo := pool [(1, .class_ 2), (0, u "java/lang/constant/ConstantDesc"), (0, .class_ 4), (0, u "java/lang/Object")] 32

/-- java/lang/constant/ConstantDesc -/
def k6 : Class := { plain "java/lang/constant/ConstantDesc" (some 0) with
  accessFlags := 1537
  interfaces := #[]
  cf := some (fileOf pool6 1 #[] #[] 1537 3 #[] #[])
  fields := #[]
  methods := #[]
  instanceTypes := #[]
  staticTypes := #[]
  resolved := Array.replicate 37 none
  statics := none }

def pool7 : Array CpInfo := pool [(1, .methodref 2 3), (0, .class_ 4), (0, .nameAndType 5 6), (0, u "java/lang/Object"), (0, u "<init>"), (0, u "()V"), (0, .string 8), (0, u ""), (0, .fieldref 10 11), (0, .class_ 12), (0, .nameAndType 13 14), (0, u "java/lang/String"), (0, u "value"), (0, u "[B"), (0, .fieldref 10 16), (0, .nameAndType 17 18), (0, u "coder"), (0, u "B"), (2, u "hash"), (0, u "I"), (2, u "hashIsZero"), (0, u "Z"), (0, .methodref 10 28), (0, .nameAndType 5 29), (0, u "([CIILjava/lang/Void;)V"), (8, .fieldref 10 39), (0, .nameAndType 40 26), (0, u "COMPACT_STRINGS"), (1, .class_ 44), (1, u "java/lang/StringUTF16"), (0, u "compress"), (1, .methodref 42 48), (0, .nameAndType 49 50), (0, u "coderFromArrayLen"), (0, u "([BI)B"), (2, u "toBytes"), (53, .class_ 109), (1, u "java/lang/StringLatin1"), (67, .methodref 42 178), (0, .nameAndType 45 179), (0, u "([CII)[B"), (29, .methodref 10 210), (0, .nameAndType 5 211), (0, u "([BB)V"), (157, u "(C)Z"), (173, u "equals"), (29, u "(Ljava/lang/Object;)Z"), (1, .class_ 576), (0, u "java/lang/CharSequence"), (22, u "CASE_INSENSITIVE_ORDER"), (0, u "Ljava/util/Comparator;"), (181, u "valueOf"), (0, u "(C)Ljava/lang/String;"), (226, u "([C)V"), (4, .methodref 107 1016), (0, .nameAndType 1017 369), (0, u "canEncode"), (0, .methodref 107 1019), (0, .nameAndType 53 1020), (0, u "(C)[B"), (80, u "serialPersistentFields"), (0, u "[Ljava/io/ObjectStreamField;"), (0, .class_ 1104), (0, u "java/lang/String$CaseInsensitiveComparator"), (1, .class_ 1107), (0, u "java/io/Serializable"), (0, .class_ 1109), (0, u "java/lang/Comparable"), (0, .class_ 1111), (0, u "java/lang/constant/Constable"), (0, .class_ 1113), (0, u "java/lang/constant/ConstantDesc"), (2, u "serialVersionUID"), (0, u "J"), (3, u "REPL"), (0, u "C"), (2, u "LATIN1"), (1, u "UTF16")] 323

def k7m0 : Method := { name := "<init>", desc := "()V", sig := { parameters := [], returnType := none }, accessFlags := 1, code := none }
def k7c1 : Code := { maxStack := 5, maxLocals := 2, code := jdk_42_method_3_code, exceptionTable := #[], attributes := #[] }
def k7m1 : Method := { name := "<init>", desc := "([C)V", sig := { parameters := [(.array .char)], returnType := none }, accessFlags := 1, code := some k7c1 }
def k7c2 : Code := { maxStack := 2, maxLocals := 3, code := jdk_42_method_66_code, exceptionTable := #[], attributes := #[] }
def k7m2 : Method := { name := "equals", desc := "(Ljava/lang/Object;)Z", sig := { parameters := [(.object "java/lang/Object")], returnType := some .boolean }, accessFlags := 1, code := some k7c2 }
def k7c3 : Code := { maxStack := 4, maxLocals := 1, code := jdk_42_method_139_code, exceptionTable := #[], attributes := #[] }
def k7m3 : Method := { name := "valueOf", desc := "(C)Ljava/lang/String;", sig := { parameters := [.char], returnType := some (.object "java/lang/String") }, accessFlags := 9, code := some k7c3 }
def k7c4 : Code := { maxStack := 4, maxLocals := 6, code := jdk_42_method_149_code, exceptionTable := #[], attributes := #[] }
def k7m4 : Method := { name := "<init>", desc := "([CIILjava/lang/Void;)V", sig := { parameters := [(.array .char), .int, .int, (.object "java/lang/Void")], returnType := none }, accessFlags := 2, code := some k7c4 }
def k7c5 : Code := { maxStack := 2, maxLocals := 3, code := jdk_42_method_151_code, exceptionTable := #[], attributes := #[] }
def k7m5 : Method := { name := "<init>", desc := "([BB)V", sig := { parameters := [(.array .byte), .byte], returnType := none }, accessFlags := 0, code := some k7c5 }
/-- java/lang/String -/
def k7 : Class := { plain "java/lang/String" (some 0) with
  accessFlags := 49
  interfaces := #[2, 3, 4, 5, 6]
  cf := some (fileOf pool7 10 #[.nestMembers #[1103]] #[{ accessFlags := 1, nameIndex := 5, descriptorIndex := 6, attributes := #[] }, { accessFlags := 1, nameIndex := 5, descriptorIndex := 1010, attributes := #[] }, { accessFlags := 1, nameIndex := 543, descriptorIndex := 573, attributes := #[] }, { accessFlags := 9, nameIndex := 782, descriptorIndex := 783, attributes := #[] }, { accessFlags := 2, nameIndex := 5, descriptorIndex := 29, attributes := #[] }, { accessFlags := 0, nameIndex := 5, descriptorIndex := 211, attributes := #[] }] 49 2 #[1106, 1108, 575, 1110, 1112] #[{ accessFlags := 18, nameIndex := 13, descriptorIndex := 14, attributes := #[] }, { accessFlags := 18, nameIndex := 17, descriptorIndex := 18, attributes := #[] }, { accessFlags := 2, nameIndex := 21, descriptorIndex := 22, attributes := #[] }, { accessFlags := 2, nameIndex := 25, descriptorIndex := 26, attributes := #[] }, { accessFlags := 26, nameIndex := 1116, descriptorIndex := 1117, attributes := #[] }, { accessFlags := 24, nameIndex := 40, descriptorIndex := 26, attributes := #[] }, { accessFlags := 26, nameIndex := 1101, descriptorIndex := 1102, attributes := #[] }, { accessFlags := 26, nameIndex := 1121, descriptorIndex := 1122, attributes := #[] }, { accessFlags := 25, nameIndex := 599, descriptorIndex := 600, attributes := #[] }, { accessFlags := 24, nameIndex := 1125, descriptorIndex := 18, attributes := #[] }, { accessFlags := 24, nameIndex := 1127, descriptorIndex := 18, attributes := #[] }])
  fields := #[{ name := "value", type := (.array .byte), accessFlags := 18, slot := 0, constantValue := 0 }, { name := "coder", type := .byte, accessFlags := 18, slot := 1, constantValue := 0 }, { name := "hash", type := .int, accessFlags := 2, slot := 2, constantValue := 0 }, { name := "hashIsZero", type := .boolean, accessFlags := 2, slot := 3, constantValue := 0 }, { name := "serialVersionUID", type := .long, accessFlags := 26, slot := 0, constantValue := 0 }, { name := "COMPACT_STRINGS", type := .boolean, accessFlags := 24, slot := 1, constantValue := 0 }, { name := "serialPersistentFields", type := (.array (.object "java/io/ObjectStreamField")), accessFlags := 26, slot := 2, constantValue := 0 }, { name := "REPL", type := .char, accessFlags := 26, slot := 3, constantValue := 0 }, { name := "CASE_INSENSITIVE_ORDER", type := (.object "java/util/Comparator"), accessFlags := 25, slot := 4, constantValue := 0 }, { name := "LATIN1", type := .byte, accessFlags := 24, slot := 5, constantValue := 0 }, { name := "UTF16", type := .byte, accessFlags := 24, slot := 6, constantValue := 0 }]
  methods := #[k7m0, k7m1, k7m2, k7m3, k7m4, k7m5]
  instanceTypes := #[(.array .byte), .byte, .int, .boolean]
  staticTypes := #[.long, .boolean, (.array (.object "java/io/ObjectStreamField")), .char, (.object "java/util/Comparator"), .byte, .byte]
  resolved := Array.replicate 1451 none
  statics := some 0 }

def pool8 : Array CpInfo := pool [(4, .class_ 6), (1, u "java/lang/Object"), (0, u "<init>"), (0, u "()V"), (5, .class_ 16), (1, u "java/lang/StringLatin1"), (73, u "canEncode"), (14, u "(C)Z"), (15, u "$assertionsDisabled"), (0, u "Z"), (98, .class_ 223), (1, u "java/lang/StringLatin1$LinesSpliterator"), (156, u "toBytes"), (1, u "(C)[B"), (7, .class_ 391), (0, u "java/lang/StringLatin1$CharsSpliterator")] 3

def k8m0 : Method := { name := "<init>", desc := "()V", sig := { parameters := [], returnType := none }, accessFlags := 0, code := none }
def k8c1 : Code := { maxStack := 2, maxLocals := 1, code := jdk_43_method_3_code, exceptionTable := #[], attributes := #[] }
def k8m1 : Method := { name := "canEncode", desc := "(C)Z", sig := { parameters := [.char], returnType := some .boolean }, accessFlags := 9, code := some k8c1 }
def k8c2 : Code := { maxStack := 4, maxLocals := 1, code := jdk_43_method_46_code, exceptionTable := #[], attributes := #[] }
def k8m2 : Method := { name := "toBytes", desc := "(C)[B", sig := { parameters := [.char], returnType := some (.array .byte) }, accessFlags := 9, code := some k8c2 }
/-- java/lang/StringLatin1 -/
def k8 : Class := { plain "java/lang/StringLatin1" (some 0) with
  accessFlags := 48
  interfaces := #[]
  cf := some (fileOf pool8 14 #[.nestMembers #[390, 221]] #[{ accessFlags := 0, nameIndex := 7, descriptorIndex := 8, attributes := #[] }, { accessFlags := 9, nameIndex := 90, descriptorIndex := 105, attributes := #[] }, { accessFlags := 9, nameIndex := 380, descriptorIndex := 382, attributes := #[] }] 48 4 #[] #[{ accessFlags := 4120, nameIndex := 121, descriptorIndex := 122, attributes := #[] }])
  fields := #[{ name := "$assertionsDisabled", type := .boolean, accessFlags := 4120, slot := 0, constantValue := 0 }]
  methods := #[k8m0, k8m1, k8m2]
  instanceTypes := #[]
  staticTypes := #[.boolean]
  resolved := Array.replicate 395 none
  statics := none }

def pool9 : Array CpInfo := pool [(1, .methodref 2 3), (0, .class_ 4), (0, .nameAndType 5 6), (0, u "java/lang/Object"), (0, u "<init>"), (0, u "()V"), (0, .class_ 8), (0, u "java/lang/Record")] 13

def k9c0 : Code := { maxStack := 1, maxLocals := 1, code := jdk_30_method_1_code, exceptionTable := #[], attributes := #[] }
def k9m0 : Method := { name := "<init>", desc := "()V", sig := { parameters := [], returnType := none }, accessFlags := 4, code := some k9c0 }
/-- java/lang/Record -/
def k9 : Class := { plain "java/lang/Record" (some 0) with
  accessFlags := 1057
  interfaces := #[]
  cf := some (fileOf pool9 7 #[] #[{ accessFlags := 4, nameIndex := 5, descriptorIndex := 6, attributes := #[] }] 1057 2 #[] #[])
  fields := #[]
  methods := #[k9m0]
  instanceTypes := #[]
  staticTypes := #[]
  resolved := Array.replicate 22 none
  statics := none }

def pool10 : Array CpInfo := pool [(1, .methodref 2 3), (0, .class_ 4), (0, .nameAndType 5 6), (0, u "java/lang/Record"), (0, u "<init>"), (0, u "()V"), (0, .fieldref 8 9), (0, .class_ 10), (0, .nameAndType 11 12), (0, u "com/example/delayed_task_dispatch/delayedtaskdispatch/model/Target"), (0, u "kind"), (0, u "Lcom/example/delayed_task_dispatch/delayedtaskdispatch/model/Target$Kind;"), (0, .fieldref 8 14), (0, .nameAndType 15 16), (0, u "address"), (0, u "Ljava/lang/String;"), (0, .fieldref 18 19), (0, .class_ 20), (0, .nameAndType 21 12), (0, u "com/example/delayed_task_dispatch/delayedtaskdispatch/model/Target$Kind"), (0, u "CALLBACK"), (0, .methodref 8 23), (0, .nameAndType 5 24), (0, u "(Lcom/example/delayed_task_dispatch/delayedtaskdispatch/model/Target$Kind;Ljava/lang/String;)V"), (0, .fieldref 18 26), (0, .nameAndType 27 12), (0, u "STREAM"), (15, u "callback"), (0, u "(Ljava/lang/String;)Lcom/example/delayed_task_dispatch/delayedtaskdispatch/model/Target;"), (0, u "stream")] 27

def k10c0 : Code := { maxStack := 2, maxLocals := 3, code := prog_6_method_1_code, exceptionTable := #[], attributes := #[] }
def k10m0 : Method := { name := "<init>", desc := "(Lcom/example/delayed_task_dispatch/delayedtaskdispatch/model/Target$Kind;Ljava/lang/String;)V", sig := { parameters := [(.object "com/example/delayed_task_dispatch/delayedtaskdispatch/model/Target$Kind"), (.object "java/lang/String")], returnType := none }, accessFlags := 1, code := some k10c0 }
def k10c1 : Code := { maxStack := 4, maxLocals := 1, code := prog_6_method_2_code, exceptionTable := #[], attributes := #[] }
def k10m1 : Method := { name := "callback", desc := "(Ljava/lang/String;)Lcom/example/delayed_task_dispatch/delayedtaskdispatch/model/Target;", sig := { parameters := [(.object "java/lang/String")], returnType := some (.object "com/example/delayed_task_dispatch/delayedtaskdispatch/model/Target") }, accessFlags := 9, code := some k10c1 }
def k10c2 : Code := { maxStack := 4, maxLocals := 1, code := prog_6_method_3_code, exceptionTable := #[], attributes := #[] }
def k10m2 : Method := { name := "stream", desc := "(Ljava/lang/String;)Lcom/example/delayed_task_dispatch/delayedtaskdispatch/model/Target;", sig := { parameters := [(.object "java/lang/String")], returnType := some (.object "com/example/delayed_task_dispatch/delayedtaskdispatch/model/Target") }, accessFlags := 9, code := some k10c2 }
/-- com/example/delayed_task_dispatch/delayedtaskdispatch/model/Target -/
def k10 : Class := { plain "com/example/delayed_task_dispatch/delayedtaskdispatch/model/Target" (some 9) with
  accessFlags := 49
  interfaces := #[]
  cf := some (fileOf pool10 8 #[.nestMembers #[18]] #[{ accessFlags := 1, nameIndex := 5, descriptorIndex := 24, attributes := #[] }, { accessFlags := 9, nameIndex := 43, descriptorIndex := 44, attributes := #[] }, { accessFlags := 9, nameIndex := 45, descriptorIndex := 44, attributes := #[] }] 49 2 #[] #[{ accessFlags := 18, nameIndex := 11, descriptorIndex := 12, attributes := #[] }, { accessFlags := 18, nameIndex := 15, descriptorIndex := 16, attributes := #[] }])
  fields := #[{ name := "kind", type := (.object "com/example/delayed_task_dispatch/delayedtaskdispatch/model/Target$Kind"), accessFlags := 18, slot := 0, constantValue := 0 }, { name := "address", type := (.object "java/lang/String"), accessFlags := 18, slot := 1, constantValue := 0 }]
  methods := #[k10m0, k10m1, k10m2]
  instanceTypes := #[(.object "com/example/delayed_task_dispatch/delayedtaskdispatch/model/Target$Kind"), (.object "java/lang/String")]
  staticTypes := #[]
  resolved := Array.replicate 73 none
  statics := none }

def pool11 : Array CpInfo := pool [(2, .class_ 4), (1, u "java/lang/Enum"), (0, u "name"), (0, u "Ljava/lang/String;"), (2, u "ordinal"), (0, u "I"), (1, .class_ 14), (1, u "java/lang/Object"), (4, u "hash"), (86, .class_ 108), (1, u "java/lang/Enum$EnumDesc"), (2, .class_ 112), (0, u "java/lang/constant/Constable"), (0, .class_ 114), (0, u "java/lang/Comparable"), (0, .class_ 116), (0, u "java/io/Serializable")] 87

/-- java/lang/Enum -/
def k11 : Class := { plain "java/lang/Enum" (some 0) with
  accessFlags := 1057
  interfaces := #[5, 3, 2]
  cf := some (fileOf pool11 2 #[.nestMembers #[106]] #[] 1057 12 #[111, 113, 115] #[{ accessFlags := 18, nameIndex := 5, descriptorIndex := 6, attributes := #[] }, { accessFlags := 18, nameIndex := 9, descriptorIndex := 10, attributes := #[] }, { accessFlags := 2, nameIndex := 19, descriptorIndex := 10, attributes := #[] }])
  fields := #[{ name := "name", type := (.object "java/lang/String"), accessFlags := 18, slot := 0, constantValue := 0 }, { name := "ordinal", type := .int, accessFlags := 18, slot := 1, constantValue := 0 }, { name := "hash", type := .int, accessFlags := 2, slot := 2, constantValue := 0 }]
  methods := #[]
  instanceTypes := #[(.object "java/lang/String"), .int, .int]
  staticTypes := #[]
  resolved := Array.replicate 204 none
  statics := none }

def pool12 : Array CpInfo := pool [(1, .class_ 2), (0, u "com/example/delayed_task_dispatch/delayedtaskdispatch/model/Target$Kind"), (2, u "CALLBACK"), (0, u "Lcom/example/delayed_task_dispatch/delayedtaskdispatch/model/Target$Kind;"), (2, u "STREAM"), (2, u "$VALUES"), (0, u "[Lcom/example/delayed_task_dispatch/delayedtaskdispatch/model/Target$Kind;"), (6, .class_ 22), (1, u "java/lang/Enum"), (42, .class_ 66), (0, u "com/example/delayed_task_dispatch/delayedtaskdispatch/model/Target")] 2

/-- com/example/delayed_task_dispatch/delayedtaskdispatch/model/Target$Kind -/
def k12 : Class := { plain "com/example/delayed_task_dispatch/delayedtaskdispatch/model/Target$Kind" (some 11) with
  accessFlags := 16433
  interfaces := #[]
  cf := some (fileOf pool12 1 #[.nestHost 65] #[] 16433 20 #[] #[{ accessFlags := 16409, nameIndex := 5, descriptorIndex := 6, attributes := #[] }, { accessFlags := 16409, nameIndex := 9, descriptorIndex := 6, attributes := #[] }, { accessFlags := 4122, nameIndex := 12, descriptorIndex := 13, attributes := #[] }])
  fields := #[{ name := "CALLBACK", type := (.object "com/example/delayed_task_dispatch/delayedtaskdispatch/model/Target$Kind"), accessFlags := 16409, slot := 0, constantValue := 0 }, { name := "STREAM", type := (.object "com/example/delayed_task_dispatch/delayedtaskdispatch/model/Target$Kind"), accessFlags := 16409, slot := 1, constantValue := 0 }, { name := "$VALUES", type := (.array (.object "com/example/delayed_task_dispatch/delayedtaskdispatch/model/Target$Kind")), accessFlags := 4122, slot := 2, constantValue := 0 }]
  methods := #[]
  instanceTypes := #[(.object "java/lang/String"), .int, .int]
  staticTypes := #[(.object "com/example/delayed_task_dispatch/delayedtaskdispatch/model/Target$Kind"), (.object "com/example/delayed_task_dispatch/delayedtaskdispatch/model/Target$Kind"), (.array (.object "com/example/delayed_task_dispatch/delayedtaskdispatch/model/Target$Kind"))]
  resolved := Array.replicate 69 none
  statics := some 1 }

def pool13 : Array CpInfo := pool [(1, .methodref 2 3), (0, .class_ 4), (0, .nameAndType 5 6), (0, u "java/lang/Record"), (0, u "<init>"), (0, u "()V"), (0, .fieldref 8 9), (0, .class_ 10), (0, .nameAndType 11 12), (0, u "com/example/delayed_task_dispatch/delayedtaskdispatch/model/Task"), (0, u "id"), (0, u "Ljava/lang/String;"), (0, .fieldref 8 14), (0, .nameAndType 15 16), (0, u "dueAt"), (0, u "J"), (0, .fieldref 8 18), (0, .nameAndType 19 20), (0, u "delayMs"), (0, u "Ljava/lang/Long;"), (0, .fieldref 8 22), (0, .nameAndType 23 24), (0, u "target"), (0, u "Lcom/example/delayed_task_dispatch/delayedtaskdispatch/model/Target;"), (0, .fieldref 8 26), (0, .nameAndType 27 12), (0, u "payload"), (0, .fieldref 8 29), (0, .nameAndType 30 31), (0, u "maxAttempts"), (0, u "Ljava/lang/Integer;"), (0, .fieldref 8 33), (0, .nameAndType 34 35), (0, u "state"), (0, u "Lcom/example/delayed_task_dispatch/delayedtaskdispatch/model/TaskState;"), (0, .fieldref 8 37), (0, .nameAndType 38 39), (0, u "attempts"), (0, u "I"), (0, .fieldref 8 41), (0, .nameAndType 42 12), (0, u "lastError"), (0, .fieldref 44 45), (0, .class_ 46), (0, .nameAndType 47 35), (0, u "com/example/delayed_task_dispatch/delayedtaskdispatch/model/TaskState"), (0, u "PENDING"), (0, .methodref 8 49), (0, .nameAndType 5 50), (0, u "(Ljava/lang/String;JLjava/lang/Long;Lcom/example/delayed_task_dispatch/delayedtaskdispatch/model/Target;Ljava/lang/String;Ljava/lang/Integer;Lcom/example/delayed_task_dispatch/delayedtaskdispatch/model/TaskState;ILjava/lang/String;)V"), (28, u "MOST_ATTEMPTS"), (5, u "pending"), (0, u "(Ljava/lang/String;JLjava/lang/Long;Lcom/example/delayed_task_dispatch/delayedtaskdispatch/model/Target;Ljava/lang/String;Ljava/lang/Integer;)Lcom/example/delayed_task_dispatch/delayedtaskdispatch/model/Task;"), (3, u "()Ljava/lang/String;"), (0, u "()I"), (0, u "()J"), (0, u "()Ljava/lang/Long;"), (0, u "()Lcom/example/delayed_task_dispatch/delayedtaskdispatch/model/Target;"), (0, u "()Ljava/lang/Integer;"), (0, u "()Lcom/example/delayed_task_dispatch/delayedtaskdispatch/model/TaskState;")] 28

def k13c0 : Code := { maxStack := 3, maxLocals := 11, code := prog_8_method_1_code, exceptionTable := #[], attributes := #[] }
def k13m0 : Method := { name := "<init>", desc := "(Ljava/lang/String;JLjava/lang/Long;Lcom/example/delayed_task_dispatch/delayedtaskdispatch/model/Target;Ljava/lang/String;Ljava/lang/Integer;Lcom/example/delayed_task_dispatch/delayedtaskdispatch/model/TaskState;ILjava/lang/String;)V", sig := { parameters := [(.object "java/lang/String"), .long, (.object "java/lang/Long"), (.object "com/example/delayed_task_dispatch/delayedtaskdispatch/model/Target"), (.object "java/lang/String"), (.object "java/lang/Integer"), (.object "com/example/delayed_task_dispatch/delayedtaskdispatch/model/TaskState"), .int, (.object "java/lang/String")], returnType := none }, accessFlags := 1, code := some k13c0 }
def k13c1 : Code := { maxStack := 12, maxLocals := 7, code := prog_8_method_2_code, exceptionTable := #[], attributes := #[] }
def k13m1 : Method := { name := "pending", desc := "(Ljava/lang/String;JLjava/lang/Long;Lcom/example/delayed_task_dispatch/delayedtaskdispatch/model/Target;Ljava/lang/String;Ljava/lang/Integer;)Lcom/example/delayed_task_dispatch/delayedtaskdispatch/model/Task;", sig := { parameters := [(.object "java/lang/String"), .long, (.object "java/lang/Long"), (.object "com/example/delayed_task_dispatch/delayedtaskdispatch/model/Target"), (.object "java/lang/String"), (.object "java/lang/Integer")], returnType := some (.object "com/example/delayed_task_dispatch/delayedtaskdispatch/model/Task") }, accessFlags := 9, code := some k13c1 }
def k13c2 : Code := { maxStack := 1, maxLocals := 1, code := prog_8_method_7_code, exceptionTable := #[], attributes := #[] }
def k13m2 : Method := { name := "id", desc := "()Ljava/lang/String;", sig := { parameters := [], returnType := some (.object "java/lang/String") }, accessFlags := 1, code := some k13c2 }
def k13c3 : Code := { maxStack := 2, maxLocals := 1, code := prog_8_method_8_code, exceptionTable := #[], attributes := #[] }
def k13m3 : Method := { name := "dueAt", desc := "()J", sig := { parameters := [], returnType := some .long }, accessFlags := 1, code := some k13c3 }
def k13c4 : Code := { maxStack := 1, maxLocals := 1, code := prog_8_method_9_code, exceptionTable := #[], attributes := #[] }
def k13m4 : Method := { name := "delayMs", desc := "()Ljava/lang/Long;", sig := { parameters := [], returnType := some (.object "java/lang/Long") }, accessFlags := 1, code := some k13c4 }
def k13c5 : Code := { maxStack := 1, maxLocals := 1, code := prog_8_method_10_code, exceptionTable := #[], attributes := #[] }
def k13m5 : Method := { name := "target", desc := "()Lcom/example/delayed_task_dispatch/delayedtaskdispatch/model/Target;", sig := { parameters := [], returnType := some (.object "com/example/delayed_task_dispatch/delayedtaskdispatch/model/Target") }, accessFlags := 1, code := some k13c5 }
def k13c6 : Code := { maxStack := 1, maxLocals := 1, code := prog_8_method_11_code, exceptionTable := #[], attributes := #[] }
def k13m6 : Method := { name := "payload", desc := "()Ljava/lang/String;", sig := { parameters := [], returnType := some (.object "java/lang/String") }, accessFlags := 1, code := some k13c6 }
def k13c7 : Code := { maxStack := 1, maxLocals := 1, code := prog_8_method_12_code, exceptionTable := #[], attributes := #[] }
def k13m7 : Method := { name := "maxAttempts", desc := "()Ljava/lang/Integer;", sig := { parameters := [], returnType := some (.object "java/lang/Integer") }, accessFlags := 1, code := some k13c7 }
def k13c8 : Code := { maxStack := 1, maxLocals := 1, code := prog_8_method_13_code, exceptionTable := #[], attributes := #[] }
def k13m8 : Method := { name := "state", desc := "()Lcom/example/delayed_task_dispatch/delayedtaskdispatch/model/TaskState;", sig := { parameters := [], returnType := some (.object "com/example/delayed_task_dispatch/delayedtaskdispatch/model/TaskState") }, accessFlags := 1, code := some k13c8 }
def k13c9 : Code := { maxStack := 1, maxLocals := 1, code := prog_8_method_14_code, exceptionTable := #[], attributes := #[] }
def k13m9 : Method := { name := "attempts", desc := "()I", sig := { parameters := [], returnType := some .int }, accessFlags := 1, code := some k13c9 }
def k13c10 : Code := { maxStack := 1, maxLocals := 1, code := prog_8_method_15_code, exceptionTable := #[], attributes := #[] }
def k13m10 : Method := { name := "lastError", desc := "()Ljava/lang/String;", sig := { parameters := [], returnType := some (.object "java/lang/String") }, accessFlags := 1, code := some k13c10 }
/-- com/example/delayed_task_dispatch/delayedtaskdispatch/model/Task -/
def k13 : Class := { plain "com/example/delayed_task_dispatch/delayedtaskdispatch/model/Task" (some 9) with
  accessFlags := 49
  interfaces := #[]
  cf := some (fileOf pool13 8 #[] #[{ accessFlags := 1, nameIndex := 5, descriptorIndex := 50, attributes := #[] }, { accessFlags := 9, nameIndex := 85, descriptorIndex := 86, attributes := #[] }, { accessFlags := 1, nameIndex := 11, descriptorIndex := 90, attributes := #[] }, { accessFlags := 1, nameIndex := 15, descriptorIndex := 92, attributes := #[] }, { accessFlags := 1, nameIndex := 19, descriptorIndex := 93, attributes := #[] }, { accessFlags := 1, nameIndex := 23, descriptorIndex := 94, attributes := #[] }, { accessFlags := 1, nameIndex := 27, descriptorIndex := 90, attributes := #[] }, { accessFlags := 1, nameIndex := 30, descriptorIndex := 95, attributes := #[] }, { accessFlags := 1, nameIndex := 34, descriptorIndex := 96, attributes := #[] }, { accessFlags := 1, nameIndex := 38, descriptorIndex := 91, attributes := #[] }, { accessFlags := 1, nameIndex := 42, descriptorIndex := 90, attributes := #[] }] 49 2 #[] #[{ accessFlags := 18, nameIndex := 11, descriptorIndex := 12, attributes := #[] }, { accessFlags := 18, nameIndex := 15, descriptorIndex := 16, attributes := #[] }, { accessFlags := 18, nameIndex := 19, descriptorIndex := 20, attributes := #[] }, { accessFlags := 18, nameIndex := 23, descriptorIndex := 24, attributes := #[] }, { accessFlags := 18, nameIndex := 27, descriptorIndex := 12, attributes := #[] }, { accessFlags := 18, nameIndex := 30, descriptorIndex := 31, attributes := #[] }, { accessFlags := 18, nameIndex := 34, descriptorIndex := 35, attributes := #[] }, { accessFlags := 18, nameIndex := 38, descriptorIndex := 39, attributes := #[] }, { accessFlags := 18, nameIndex := 42, descriptorIndex := 12, attributes := #[] }, { accessFlags := 25, nameIndex := 79, descriptorIndex := 39, attributes := #[] }])
  fields := #[{ name := "id", type := (.object "java/lang/String"), accessFlags := 18, slot := 0, constantValue := 0 }, { name := "dueAt", type := .long, accessFlags := 18, slot := 1, constantValue := 0 }, { name := "delayMs", type := (.object "java/lang/Long"), accessFlags := 18, slot := 2, constantValue := 0 }, { name := "target", type := (.object "com/example/delayed_task_dispatch/delayedtaskdispatch/model/Target"), accessFlags := 18, slot := 3, constantValue := 0 }, { name := "payload", type := (.object "java/lang/String"), accessFlags := 18, slot := 4, constantValue := 0 }, { name := "maxAttempts", type := (.object "java/lang/Integer"), accessFlags := 18, slot := 5, constantValue := 0 }, { name := "state", type := (.object "com/example/delayed_task_dispatch/delayedtaskdispatch/model/TaskState"), accessFlags := 18, slot := 6, constantValue := 0 }, { name := "attempts", type := .int, accessFlags := 18, slot := 7, constantValue := 0 }, { name := "lastError", type := (.object "java/lang/String"), accessFlags := 18, slot := 8, constantValue := 0 }, { name := "MOST_ATTEMPTS", type := .int, accessFlags := 25, slot := 0, constantValue := 0 }]
  methods := #[k13m0, k13m1, k13m2, k13m3, k13m4, k13m5, k13m6, k13m7, k13m8, k13m9, k13m10]
  instanceTypes := #[(.object "java/lang/String"), .long, (.object "java/lang/Long"), (.object "com/example/delayed_task_dispatch/delayedtaskdispatch/model/Target"), (.object "java/lang/String"), (.object "java/lang/Integer"), (.object "com/example/delayed_task_dispatch/delayedtaskdispatch/model/TaskState"), .int, (.object "java/lang/String")]
  staticTypes := #[.int]
  resolved := Array.replicate 125 none
  statics := none }

def pool14 : Array CpInfo := pool [(1, .class_ 2), (0, u "com/example/delayed_task_dispatch/delayedtaskdispatch/model/TaskState"), (2, u "PENDING"), (0, u "Lcom/example/delayed_task_dispatch/delayedtaskdispatch/model/TaskState;"), (2, u "DELIVERED"), (2, u "FAILED"), (2, u "CANCELLED"), (2, u "$VALUES"), (0, u "[Lcom/example/delayed_task_dispatch/delayedtaskdispatch/model/TaskState;"), (6, .class_ 28), (1, u "java/lang/Enum")] 77

/-- com/example/delayed_task_dispatch/delayedtaskdispatch/model/TaskState -/
def k14 : Class := { plain "com/example/delayed_task_dispatch/delayedtaskdispatch/model/TaskState" (some 11) with
  accessFlags := 16433
  interfaces := #[]
  cf := some (fileOf pool14 1 #[] #[] 16433 26 #[] #[{ accessFlags := 16409, nameIndex := 5, descriptorIndex := 6, attributes := #[] }, { accessFlags := 16409, nameIndex := 9, descriptorIndex := 6, attributes := #[] }, { accessFlags := 16409, nameIndex := 12, descriptorIndex := 6, attributes := #[] }, { accessFlags := 16409, nameIndex := 15, descriptorIndex := 6, attributes := #[] }, { accessFlags := 4122, nameIndex := 18, descriptorIndex := 19, attributes := #[] }])
  fields := #[{ name := "PENDING", type := (.object "com/example/delayed_task_dispatch/delayedtaskdispatch/model/TaskState"), accessFlags := 16409, slot := 0, constantValue := 0 }, { name := "DELIVERED", type := (.object "com/example/delayed_task_dispatch/delayedtaskdispatch/model/TaskState"), accessFlags := 16409, slot := 1, constantValue := 0 }, { name := "FAILED", type := (.object "com/example/delayed_task_dispatch/delayedtaskdispatch/model/TaskState"), accessFlags := 16409, slot := 2, constantValue := 0 }, { name := "CANCELLED", type := (.object "com/example/delayed_task_dispatch/delayedtaskdispatch/model/TaskState"), accessFlags := 16409, slot := 3, constantValue := 0 }, { name := "$VALUES", type := (.array (.object "com/example/delayed_task_dispatch/delayedtaskdispatch/model/TaskState")), accessFlags := 4122, slot := 4, constantValue := 0 }]
  methods := #[]
  instanceTypes := #[(.object "java/lang/String"), .int, .int]
  staticTypes := #[(.object "com/example/delayed_task_dispatch/delayedtaskdispatch/model/TaskState"), (.object "com/example/delayed_task_dispatch/delayedtaskdispatch/model/TaskState"), (.object "com/example/delayed_task_dispatch/delayedtaskdispatch/model/TaskState"), (.object "com/example/delayed_task_dispatch/delayedtaskdispatch/model/TaskState"), (.array (.object "com/example/delayed_task_dispatch/delayedtaskdispatch/model/TaskState"))]
  resolved := Array.replicate 106 none
  statics := some 2 }

def pool15 : Array CpInfo := pool [(6, .class_ 8), (1, u "java/lang/Object"), (0, u "<init>"), (0, u "()V"), (1, .class_ 14), (1, u "java/lang/StringUTF16"), (31, u "$assertionsDisabled"), (0, u "Z"), (13, u "HI_BYTE_SHIFT"), (0, u "I"), (2, u "LO_BYTE_SHIFT"), (49, .methodref 12 116), (0, .nameAndType 117 118), (0, u "compress"), (0, u "([CI[BII)I"), (3, u "([CII)[B"), (138, u "coderFromArrayLen"), (0, u "([BI)B"), (106, .class_ 371), (1, u "java/lang/StringUTF16$LinesSpliterator"), (58, u "MAX_LENGTH"), (196, .class_ 628), (0, u "java/lang/StringUTF16$CodePointsSpliterator"), (0, .class_ 630), (0, u "java/lang/StringUTF16$CharsSpliterator")] 4

def k15m0 : Method := { name := "<init>", desc := "()V", sig := { parameters := [], returnType := none }, accessFlags := 0, code := none }
def k15c1 : Code := { maxStack := 2, maxLocals := 2, code := jdk_52_method_15_code, exceptionTable := #[], attributes := #[] }
def k15m1 : Method := { name := "coderFromArrayLen", desc := "([BI)B", sig := { parameters := [(.array .byte), .int], returnType := some .byte }, accessFlags := 8, code := some k15c1 }
def k15c2 : Code := { maxStack := 5, maxLocals := 6, code := jdk_52_method_16_code, exceptionTable := #[], attributes := #[] }
def k15m2 : Method := { name := "compress", desc := "([CII)[B", sig := { parameters := [(.array .char), .int, .int], returnType := some (.array .byte) }, accessFlags := 9, code := some k15c2 }
def k15c3 : Code := { maxStack := 3, maxLocals := 7, code := jdk_52_method_21_code, exceptionTable := #[], attributes := #[] }
def k15m3 : Method := { name := "compress", desc := "([CI[BII)I", sig := { parameters := [(.array .char), .int, (.array .byte), .int, .int], returnType := some .int }, accessFlags := 9, code := some k15c3 }
/-- java/lang/StringUTF16 -/
def k15 : Class := { plain "java/lang/StringUTF16" (some 0) with
  accessFlags := 48
  interfaces := #[]
  cf := some (fileOf pool15 12 #[.nestMembers #[627, 629, 369]] #[{ accessFlags := 0, nameIndex := 9, descriptorIndex := 10, attributes := #[] }, { accessFlags := 8, nameIndex := 261, descriptorIndex := 262, attributes := #[] }, { accessFlags := 9, nameIndex := 117, descriptorIndex := 122, attributes := #[] }, { accessFlags := 9, nameIndex := 117, descriptorIndex := 118, attributes := #[] }] 48 6 #[] #[{ accessFlags := 26, nameIndex := 61, descriptorIndex := 62, attributes := #[] }, { accessFlags := 26, nameIndex := 65, descriptorIndex := 62, attributes := #[] }, { accessFlags := 24, nameIndex := 430, descriptorIndex := 62, attributes := #[] }, { accessFlags := 4120, nameIndex := 46, descriptorIndex := 47, attributes := #[] }])
  fields := #[{ name := "HI_BYTE_SHIFT", type := .int, accessFlags := 26, slot := 0, constantValue := 0 }, { name := "LO_BYTE_SHIFT", type := .int, accessFlags := 26, slot := 1, constantValue := 0 }, { name := "MAX_LENGTH", type := .int, accessFlags := 24, slot := 2, constantValue := 0 }, { name := "$assertionsDisabled", type := .boolean, accessFlags := 4120, slot := 3, constantValue := 0 }]
  methods := #[k15m0, k15m1, k15m2, k15m3]
  instanceTypes := #[]
  staticTypes := #[.int, .int, .int, .boolean]
  resolved := Array.replicate 635 none
  statics := none }

def pool16 : Array CpInfo := pool [(1, .methodref 2 3), (0, .class_ 4), (0, .nameAndType 5 6), (0, u "java/lang/Object"), (0, u "<init>"), (0, u "()V"), (1, .class_ 10), (1, u "java/lang/Number"), (2, .class_ 14), (0, u "java/io/Serializable"), (0, u "serialVersionUID"), (0, u "J")] 20

def k16c0 : Code := { maxStack := 1, maxLocals := 1, code := jdk_18_method_1_code, exceptionTable := #[], attributes := #[] }
def k16m0 : Method := { name := "<init>", desc := "()V", sig := { parameters := [], returnType := none }, accessFlags := 1, code := some k16c0 }
/-- java/lang/Number -/
def k16 : Class := { plain "java/lang/Number" (some 0) with
  accessFlags := 1057
  interfaces := #[2]
  cf := some (fileOf pool16 8 #[] #[{ accessFlags := 1, nameIndex := 5, descriptorIndex := 6, attributes := #[] }] 1057 2 #[13] #[{ accessFlags := 26, nameIndex := 15, descriptorIndex := 16, attributes := #[] }])
  fields := #[{ name := "serialVersionUID", type := .long, accessFlags := 26, slot := 0, constantValue := 0 }]
  methods := #[k16m0]
  instanceTypes := #[]
  staticTypes := #[.long]
  resolved := Array.replicate 37 none
  statics := none }

def pool17 : Array CpInfo := pool [(1, .class_ 2), (0, u "java/lang/Long"), (55, .nameAndType 59 60), (0, u "<init>"), (0, u "()V"), (24, u "valueOf"), (143, u "(J)Ljava/lang/Long;"), (0, .long 18446744073709551488), (1, .long 127), (1, .fieldref 235 236), (0, .class_ 237), (0, .nameAndType 238 239), (0, u "java/lang/Long$LongCache"), (0, u "cache"), (0, u "[Ljava/lang/Long;"), (0, .methodref 1 241), (0, .nameAndType 59 242), (0, u "(J)V"), (27, .methodref 271 58), (0, .class_ 272), (0, u "java/lang/Number"), (0, .fieldref 1 274), (0, .nameAndType 275 276), (0, u "value"), (0, u "J"), (5, u "longValue"), (0, u "()J"), (77, u "TYPE"), (0, u "Ljava/lang/Class;"), (0, .class_ 364), (0, u "java/lang/Comparable"), (0, .class_ 366), (0, u "java/lang/constant/Constable"), (0, .class_ 368), (0, u "java/lang/constant/ConstantDesc"), (0, u "MIN_VALUE"), (1, u "MAX_VALUE"), (4, u "SIZE"), (0, u "I"), (1, u "BYTES"), (1, u "serialVersionUID")] 142

def k17c0 : Code := { maxStack := 4, maxLocals := 3, code := jdk_35_method_24_code, exceptionTable := #[], attributes := #[] }
def k17m0 : Method := { name := "valueOf", desc := "(J)Ljava/lang/Long;", sig := { parameters := [.long], returnType := some (.object "java/lang/Long") }, accessFlags := 9, code := some k17c0 }
def k17c1 : Code := { maxStack := 3, maxLocals := 3, code := jdk_35_method_26_code, exceptionTable := #[], attributes := #[] }
def k17m1 : Method := { name := "<init>", desc := "(J)V", sig := { parameters := [.long], returnType := none }, accessFlags := 1, code := some k17c1 }
def k17c2 : Code := { maxStack := 2, maxLocals := 1, code := jdk_35_method_31_code, exceptionTable := #[], attributes := #[] }
def k17m2 : Method := { name := "longValue", desc := "()J", sig := { parameters := [], returnType := some .long }, accessFlags := 1, code := some k17c2 }
/-- java/lang/Long -/
def k17 : Class := { plain "java/lang/Long" (some 16) with
  accessFlags := 49
  interfaces := #[3, 5, 6]
  cf := some (fileOf pool17 1 #[.nestMembers #[235]] #[{ accessFlags := 9, nameIndex := 85, descriptorIndex := 229, attributes := #[] }, { accessFlags := 1, nameIndex := 59, descriptorIndex := 242, attributes := #[] }, { accessFlags := 1, nameIndex := 282, descriptorIndex := 283, attributes := #[] }] 49 271 #[363, 365, 367] #[{ accessFlags := 25, nameIndex := 369, descriptorIndex := 276, attributes := #[] }, { accessFlags := 25, nameIndex := 371, descriptorIndex := 276, attributes := #[] }, { accessFlags := 25, nameIndex := 361, descriptorIndex := 362, attributes := #[] }, { accessFlags := 18, nameIndex := 275, descriptorIndex := 276, attributes := #[] }, { accessFlags := 25, nameIndex := 376, descriptorIndex := 377, attributes := #[] }, { accessFlags := 25, nameIndex := 379, descriptorIndex := 377, attributes := #[] }, { accessFlags := 26, nameIndex := 381, descriptorIndex := 276, attributes := #[] }])
  fields := #[{ name := "MIN_VALUE", type := .long, accessFlags := 25, slot := 0, constantValue := 0 }, { name := "MAX_VALUE", type := .long, accessFlags := 25, slot := 1, constantValue := 0 }, { name := "TYPE", type := (.object "java/lang/Class"), accessFlags := 25, slot := 2, constantValue := 0 }, { name := "value", type := .long, accessFlags := 18, slot := 0, constantValue := 0 }, { name := "SIZE", type := .int, accessFlags := 25, slot := 3, constantValue := 0 }, { name := "BYTES", type := .int, accessFlags := 25, slot := 4, constantValue := 0 }, { name := "serialVersionUID", type := .long, accessFlags := 26, slot := 5, constantValue := 0 }]
  methods := #[k17m0, k17m1, k17m2]
  instanceTypes := #[.long]
  staticTypes := #[.long, .long, (.object "java/lang/Class"), .int, .int, .long]
  resolved := Array.replicate 524 none
  statics := none }

def pool18 : Array CpInfo := pool [(1, .class_ 2), (0, u "java/lang/Integer"), (16, u "digits"), (0, u "[C"), (64, u "DigitOnes"), (0, u "[B"), (2, u "DigitTens"), (31, u "()I"), (65, u "valueOf"), (0, u "(I)Ljava/lang/Integer;"), (0, .class_ 190), (0, u "java/lang/Integer$IntegerCache"), (0, .fieldref 189 192), (0, .nameAndType 193 194), (0, u "high"), (0, u "I"), (0, .fieldref 189 196), (0, .nameAndType 197 198), (0, u "cache"), (0, u "[Ljava/lang/Integer;"), (4, .class_ 204), (0, u "java/lang/Number"), (0, .fieldref 1 206), (0, .nameAndType 207 194), (0, u "value"), (5, u "intValue"), (88, u "TYPE"), (0, u "Ljava/lang/Class;"), (0, .class_ 305), (0, u "java/lang/Comparable"), (0, .class_ 307), (0, u "java/lang/constant/Constable"), (0, .class_ 309), (0, u "java/lang/constant/ConstantDesc"), (0, u "MIN_VALUE"), (1, u "MAX_VALUE"), (3, u "SIZE"), (1, u "BYTES"), (1, u "serialVersionUID"), (0, u "J")] 131

def k18c0 : Code := { maxStack := 3, maxLocals := 1, code := jdk_33_method_22_code, exceptionTable := #[], attributes := #[] }
def k18m0 : Method := { name := "valueOf", desc := "(I)Ljava/lang/Integer;", sig := { parameters := [.int], returnType := some (.object "java/lang/Integer") }, accessFlags := 9, code := some k18c0 }
def k18c1 : Code := { maxStack := 1, maxLocals := 1, code := jdk_33_method_27_code, exceptionTable := #[], attributes := #[] }
def k18m1 : Method := { name := "intValue", desc := "()I", sig := { parameters := [], returnType := some .int }, accessFlags := 1, code := some k18c1 }
/-- java/lang/Integer -/
def k18 : Class := { plain "java/lang/Integer" (some 16) with
  accessFlags := 49
  interfaces := #[3, 5, 6]
  cf := some (fileOf pool18 1 #[.nestMembers #[189]] #[{ accessFlags := 9, nameIndex := 187, descriptorIndex := 188, attributes := #[] }, { accessFlags := 1, nameIndex := 213, descriptorIndex := 121, attributes := #[] }] 49 203 #[304, 306, 308] #[{ accessFlags := 25, nameIndex := 310, descriptorIndex := 194, attributes := #[] }, { accessFlags := 25, nameIndex := 312, descriptorIndex := 194, attributes := #[] }, { accessFlags := 25, nameIndex := 302, descriptorIndex := 303, attributes := #[] }, { accessFlags := 24, nameIndex := 19, descriptorIndex := 20, attributes := #[] }, { accessFlags := 24, nameIndex := 89, descriptorIndex := 86, attributes := #[] }, { accessFlags := 24, nameIndex := 85, descriptorIndex := 86, attributes := #[] }, { accessFlags := 18, nameIndex := 207, descriptorIndex := 194, attributes := #[] }, { accessFlags := 25, nameIndex := 316, descriptorIndex := 194, attributes := #[] }, { accessFlags := 25, nameIndex := 318, descriptorIndex := 194, attributes := #[] }, { accessFlags := 26, nameIndex := 320, descriptorIndex := 321, attributes := #[] }])
  fields := #[{ name := "MIN_VALUE", type := .int, accessFlags := 25, slot := 0, constantValue := 0 }, { name := "MAX_VALUE", type := .int, accessFlags := 25, slot := 1, constantValue := 0 }, { name := "TYPE", type := (.object "java/lang/Class"), accessFlags := 25, slot := 2, constantValue := 0 }, { name := "digits", type := (.array .char), accessFlags := 24, slot := 3, constantValue := 0 }, { name := "DigitTens", type := (.array .byte), accessFlags := 24, slot := 4, constantValue := 0 }, { name := "DigitOnes", type := (.array .byte), accessFlags := 24, slot := 5, constantValue := 0 }, { name := "value", type := .int, accessFlags := 18, slot := 0, constantValue := 0 }, { name := "SIZE", type := .int, accessFlags := 25, slot := 6, constantValue := 0 }, { name := "BYTES", type := .int, accessFlags := 25, slot := 7, constantValue := 0 }, { name := "serialVersionUID", type := .long, accessFlags := 26, slot := 8, constantValue := 0 }]
  methods := #[k18m0, k18m1]
  instanceTypes := #[.int]
  staticTypes := #[.int, .int, (.object "java/lang/Class"), (.array .char), (.array .byte), (.array .byte), .int, .int, .long]
  resolved := Array.replicate 453 none
  statics := none }

def pool19 : Array CpInfo := pool [(2, .class_ 4), (1, u "java/lang/Object"), (0, u "<init>"), (0, u "()V"), (0, .class_ 8), (0, u "java/lang/Integer"), (7, .class_ 18), (1, u "java/lang/Integer$IntegerCache"), (0, u "$assertionsDisabled"), (0, u "Z"), (26, u "high"), (0, u "I"), (8, u "archivedCache"), (0, u "[Ljava/lang/Integer;"), (12, u "cache"), (0, u "low")] 27

def k19m0 : Method := { name := "<init>", desc := "()V", sig := { parameters := [], returnType := none }, accessFlags := 2, code := none }
/-- java/lang/Integer$IntegerCache -/
def k19 : Class := { plain "java/lang/Integer$IntegerCache" (some 0) with
  accessFlags := 48
  interfaces := #[]
  cf := some (fileOf pool19 16 #[.nestHost 7] #[{ accessFlags := 2, nameIndex := 5, descriptorIndex := 6, attributes := #[] }] 48 2 #[] #[{ accessFlags := 24, nameIndex := 72, descriptorIndex := 48, attributes := #[] }, { accessFlags := 24, nameIndex := 47, descriptorIndex := 48, attributes := #[] }, { accessFlags := 24, nameIndex := 71, descriptorIndex := 58, attributes := #[] }, { accessFlags := 8, nameIndex := 57, descriptorIndex := 58, attributes := #[] }, { accessFlags := 4120, nameIndex := 19, descriptorIndex := 20, attributes := #[] }])
  fields := #[{ name := "low", type := .int, accessFlags := 24, slot := 0, constantValue := 0 }, { name := "high", type := .int, accessFlags := 24, slot := 1, constantValue := 0 }, { name := "cache", type := (.array (.object "java/lang/Integer")), accessFlags := 24, slot := 2, constantValue := 0 }, { name := "archivedCache", type := (.array (.object "java/lang/Integer")), accessFlags := 8, slot := 3, constantValue := 0 }, { name := "$assertionsDisabled", type := .boolean, accessFlags := 4120, slot := 4, constantValue := 0 }]
  methods := #[k19m0]
  instanceTypes := #[]
  staticTypes := #[.int, .int, (.array (.object "java/lang/Integer")), (.array (.object "java/lang/Integer")), .boolean]
  resolved := Array.replicate 100 none
  statics := some 3 }

def pool20 : Array CpInfo := pool [(2, .class_ 4), (1, u "java/lang/Object"), (0, u "<init>"), (0, u "()V"), (0, .class_ 8), (0, u "java/lang/Long"), (7, .class_ 18), (1, u "java/lang/Long$LongCache"), (0, u "$assertionsDisabled"), (0, u "Z"), (8, u "archivedCache"), (0, u "[Ljava/lang/Long;"), (7, u "cache")] 24

def k20m0 : Method := { name := "<init>", desc := "()V", sig := { parameters := [], returnType := none }, accessFlags := 2, code := none }
/-- java/lang/Long$LongCache -/
def k20 : Class := { plain "java/lang/Long$LongCache" (some 0) with
  accessFlags := 48
  interfaces := #[]
  cf := some (fileOf pool20 16 #[.nestHost 7] #[{ accessFlags := 2, nameIndex := 5, descriptorIndex := 6, attributes := #[] }] 48 2 #[] #[{ accessFlags := 24, nameIndex := 38, descriptorIndex := 30, attributes := #[] }, { accessFlags := 8, nameIndex := 29, descriptorIndex := 30, attributes := #[] }, { accessFlags := 4120, nameIndex := 19, descriptorIndex := 20, attributes := #[] }])
  fields := #[{ name := "cache", type := (.array (.object "java/lang/Long")), accessFlags := 24, slot := 0, constantValue := 0 }, { name := "archivedCache", type := (.array (.object "java/lang/Long")), accessFlags := 8, slot := 1, constantValue := 0 }, { name := "$assertionsDisabled", type := .boolean, accessFlags := 4120, slot := 2, constantValue := 0 }]
  methods := #[k20m0]
  instanceTypes := #[]
  staticTypes := #[(.array (.object "java/lang/Long")), (.array (.object "java/lang/Long")), .boolean]
  resolved := Array.replicate 63 none
  statics := some 4 }

def pool21 : Array CpInfo := pool [(2, .class_ 4), (1, u "java/lang/Object"), (0, u "<init>"), (0, u "()V"), (17, .class_ 26), (1, u "jdk/internal/util/Preconditions"), (28, .class_ 56), (0, u "jdk/internal/util/Preconditions$4"), (57, .class_ 115), (0, u "jdk/internal/util/Preconditions$1"), (7, u "SIOOBE_FORMATTER"), (0, u "Ljava/util/function/BiFunction;"), (0, .class_ 126), (0, u "jdk/internal/util/Preconditions$2"), (3, u "AIOOBE_FORMATTER"), (0, .class_ 132), (0, u "jdk/internal/util/Preconditions$3"), (3, u "IOOBE_FORMATTER")] 57

def k21m0 : Method := { name := "<init>", desc := "()V", sig := { parameters := [], returnType := none }, accessFlags := 1, code := none }
/-- jdk/internal/util/Preconditions -/
def k21 : Class := { plain "jdk/internal/util/Preconditions" (some 0) with
  accessFlags := 33
  interfaces := #[]
  cf := some (fileOf pool21 24 #[.nestMembers #[55, 131, 125, 114]] #[{ accessFlags := 1, nameIndex := 5, descriptorIndex := 6, attributes := #[] }] 33 2 #[] #[{ accessFlags := 25, nameIndex := 123, descriptorIndex := 124, attributes := #[] }, { accessFlags := 25, nameIndex := 130, descriptorIndex := 124, attributes := #[] }, { accessFlags := 25, nameIndex := 136, descriptorIndex := 124, attributes := #[] }])
  fields := #[{ name := "SIOOBE_FORMATTER", type := (.object "java/util/function/BiFunction"), accessFlags := 25, slot := 0, constantValue := 0 }, { name := "AIOOBE_FORMATTER", type := (.object "java/util/function/BiFunction"), accessFlags := 25, slot := 1, constantValue := 0 }, { name := "IOOBE_FORMATTER", type := (.object "java/util/function/BiFunction"), accessFlags := 25, slot := 2, constantValue := 0 }]
  methods := #[k21m0]
  instanceTypes := #[]
  staticTypes := #[(.object "java/util/function/BiFunction"), (.object "java/util/function/BiFunction"), (.object "java/util/function/BiFunction")]
  resolved := Array.replicate 194 none
  statics := some 5 }

def pool22 : Array CpInfo := pool [(9, u "<init>"), (6, .class_ 18), (1, u "java/lang/Object"), (0, u "()V"), (1, .class_ 23), (1, u "jdk/internal/util/ArraysSupport"), (0, u "LOG2_ARRAY_LONG_INDEX_SCALE"), (0, u "I"), (2, u "U"), (0, u "Ljdk/internal/misc/Unsafe;"), (8, u "BIG_ENDIAN"), (0, u "Z"), (8, u "LOG2_BYTE_BIT_SIZE"), (4, u "LOG2_ARRAY_INT_INDEX_SCALE"), (54, u "JLA"), (0, u "Ljdk/internal/access/JavaLangAccess;"), (11, u "LOG2_ARRAY_BOOLEAN_INDEX_SCALE"), (9, u "LOG2_ARRAY_BYTE_INDEX_SCALE"), (5, u "LOG2_ARRAY_CHAR_INDEX_SCALE"), (5, u "LOG2_ARRAY_SHORT_INDEX_SCALE"), (18, u "LOG2_ARRAY_FLOAT_INDEX_SCALE"), (24, u "LOG2_ARRAY_DOUBLE_INDEX_SCALE"), (89, u "T_BOOLEAN"), (2, u "T_CHAR"), (1, u "T_FLOAT"), (1, u "T_DOUBLE"), (1, u "T_BYTE"), (1, u "T_SHORT"), (1, u "T_INT"), (1, u "T_LONG"), (1, u "SOFT_MAX_ARRAY_LENGTH")] 83

def k22m0 : Method := { name := "<init>", desc := "()V", sig := { parameters := [], returnType := none }, accessFlags := 2, code := none }
/-- jdk/internal/util/ArraysSupport -/
def k22 : Class := { plain "jdk/internal/util/ArraysSupport" (some 0) with
  accessFlags := 33
  interfaces := #[]
  cf := some (fileOf pool22 21 #[] #[{ accessFlags := 2, nameIndex := 9, descriptorIndex := 19, attributes := #[] }] 33 16 #[] #[{ accessFlags := 24, nameIndex := 28, descriptorIndex := 29, attributes := #[] }, { accessFlags := 26, nameIndex := 38, descriptorIndex := 39, attributes := #[] }, { accessFlags := 25, nameIndex := 121, descriptorIndex := 25, attributes := #[] }, { accessFlags := 25, nameIndex := 131, descriptorIndex := 25, attributes := #[] }, { accessFlags := 25, nameIndex := 137, descriptorIndex := 25, attributes := #[] }, { accessFlags := 25, nameIndex := 143, descriptorIndex := 25, attributes := #[] }, { accessFlags := 25, nameIndex := 53, descriptorIndex := 25, attributes := #[] }, { accessFlags := 25, nameIndex := 24, descriptorIndex := 25, attributes := #[] }, { accessFlags := 25, nameIndex := 162, descriptorIndex := 25, attributes := #[] }, { accessFlags := 25, nameIndex := 187, descriptorIndex := 25, attributes := #[] }, { accessFlags := 26, nameIndex := 48, descriptorIndex := 25, attributes := #[] }, { accessFlags := 25, nameIndex := 277, descriptorIndex := 25, attributes := #[] }, { accessFlags := 25, nameIndex := 280, descriptorIndex := 25, attributes := #[] }, { accessFlags := 25, nameIndex := 282, descriptorIndex := 25, attributes := #[] }, { accessFlags := 25, nameIndex := 284, descriptorIndex := 25, attributes := #[] }, { accessFlags := 25, nameIndex := 286, descriptorIndex := 25, attributes := #[] }, { accessFlags := 25, nameIndex := 288, descriptorIndex := 25, attributes := #[] }, { accessFlags := 25, nameIndex := 290, descriptorIndex := 25, attributes := #[] }, { accessFlags := 25, nameIndex := 292, descriptorIndex := 25, attributes := #[] }, { accessFlags := 26, nameIndex := 108, descriptorIndex := 109, attributes := #[] }, { accessFlags := 25, nameIndex := 294, descriptorIndex := 25, attributes := #[] }])
  fields := #[{ name := "U", type := (.object "jdk/internal/misc/Unsafe"), accessFlags := 24, slot := 0, constantValue := 0 }, { name := "BIG_ENDIAN", type := .boolean, accessFlags := 26, slot := 1, constantValue := 0 }, { name := "LOG2_ARRAY_BOOLEAN_INDEX_SCALE", type := .int, accessFlags := 25, slot := 2, constantValue := 0 }, { name := "LOG2_ARRAY_BYTE_INDEX_SCALE", type := .int, accessFlags := 25, slot := 3, constantValue := 0 }, { name := "LOG2_ARRAY_CHAR_INDEX_SCALE", type := .int, accessFlags := 25, slot := 4, constantValue := 0 }, { name := "LOG2_ARRAY_SHORT_INDEX_SCALE", type := .int, accessFlags := 25, slot := 5, constantValue := 0 }, { name := "LOG2_ARRAY_INT_INDEX_SCALE", type := .int, accessFlags := 25, slot := 6, constantValue := 0 }, { name := "LOG2_ARRAY_LONG_INDEX_SCALE", type := .int, accessFlags := 25, slot := 7, constantValue := 0 }, { name := "LOG2_ARRAY_FLOAT_INDEX_SCALE", type := .int, accessFlags := 25, slot := 8, constantValue := 0 }, { name := "LOG2_ARRAY_DOUBLE_INDEX_SCALE", type := .int, accessFlags := 25, slot := 9, constantValue := 0 }, { name := "LOG2_BYTE_BIT_SIZE", type := .int, accessFlags := 26, slot := 10, constantValue := 0 }, { name := "T_BOOLEAN", type := .int, accessFlags := 25, slot := 11, constantValue := 0 }, { name := "T_CHAR", type := .int, accessFlags := 25, slot := 12, constantValue := 0 }, { name := "T_FLOAT", type := .int, accessFlags := 25, slot := 13, constantValue := 0 }, { name := "T_DOUBLE", type := .int, accessFlags := 25, slot := 14, constantValue := 0 }, { name := "T_BYTE", type := .int, accessFlags := 25, slot := 15, constantValue := 0 }, { name := "T_SHORT", type := .int, accessFlags := 25, slot := 16, constantValue := 0 }, { name := "T_INT", type := .int, accessFlags := 25, slot := 17, constantValue := 0 }, { name := "T_LONG", type := .int, accessFlags := 25, slot := 18, constantValue := 0 }, { name := "JLA", type := (.object "jdk/internal/access/JavaLangAccess"), accessFlags := 26, slot := 19, constantValue := 0 }, { name := "SOFT_MAX_ARRAY_LENGTH", type := .int, accessFlags := 25, slot := 20, constantValue := 0 }]
  methods := #[k22m0]
  instanceTypes := #[]
  staticTypes := #[(.object "jdk/internal/misc/Unsafe"), .boolean, .int, .int, .int, .int, .int, .int, .int, .int, .int, .int, .int, .int, .int, .int, .int, .int, .int, (.object "jdk/internal/access/JavaLangAccess"), .int]
  resolved := Array.replicate 378 none
  statics := none }

def pool23 : Array CpInfo := pool [(1, u "java/lang/Cloneable"), (0, .class_ 1), (0, u "java/lang/Object"), (0, .class_ 3)] 3

/-- java/lang/Cloneable -/
def k23 : Class := { plain "java/lang/Cloneable" (some 0) with
  accessFlags := 1537
  interfaces := #[]
  cf := some (fileOf pool23 2 #[] #[] 1537 4 #[] #[])
  fields := #[]
  methods := #[]
  instanceTypes := #[]
  staticTypes := #[]
  resolved := Array.replicate 8 none
  statics := none }

/-- the primitive byte -/
def k24 : Class := { plain "byte" none with kind := .primitive 'B', accessFlags := 0x411 }
/-- [B -/
def k25 : Class := { plain "[B" (some 0) with kind := .array 24 .byte, interfaces := #[23, 2], accessFlags := 1041 }

/-- the primitive char -/
def k26 : Class := { plain "char" none with kind := .primitive 'C', accessFlags := 0x411 }
/-- [C -/
def k27 : Class := { plain "[C" (some 0) with kind := .array 26 .char, interfaces := #[23, 2], accessFlags := 1041 }

/-- the primitive int -/
def k28 : Class := { plain "int" none with kind := .primitive 'I', accessFlags := 0x411 }
/-- [I -/
def k29 : Class := { plain "[I" (some 0) with kind := .array 28 .int, interfaces := #[23, 2], accessFlags := 1041 }

/-- [Ljava/lang/Integer; -/
def k30 : Class := { plain "[Ljava/lang/Integer;" (some 0) with kind := .array 18 (.object "java/lang/Integer"), interfaces := #[23, 2], accessFlags := 1041 }

/-- [Ljava/lang/Long; -/
def k31 : Class := { plain "[Ljava/lang/Long;" (some 0) with kind := .array 17 (.object "java/lang/Long"), interfaces := #[23, 2], accessFlags := 1041 }

def heap : Heap := #[{ cls := 7, slots := #[.long 0, .int 1, .null, .int 0, .null, .int 0, .int 0], vm := .statics 7 },
  { cls := 12, slots := #[.ref 8, .ref 9, .null], vm := .statics 12 },
  { cls := 14, slots := #[.ref 10, .null, .null, .null, .null], vm := .statics 14 },
  { cls := 19, slots := #[.int 0, .int 127, .ref 6, .null, .int 0], vm := .statics 19 },
  { cls := 20, slots := #[.ref 7, .null, .int 0], vm := .statics 20 },
  { cls := 21, slots := #[.null, .null, .null], vm := .statics 21 },
  { cls := 30, slots := #[.ref 11, .ref 12, .ref 13, .ref 14, .ref 15, .ref 16, .ref 17, .ref 18, .ref 19, .ref 20, .ref 21, .ref 22, .ref 23, .ref 24, .ref 25, .ref 26, .ref 27, .ref 28, .ref 29, .ref 30, .ref 31, .ref 32, .ref 33, .ref 34, .ref 35, .ref 36, .ref 37, .ref 38, .ref 39, .ref 40, .ref 41, .ref 42, .ref 43, .ref 44, .ref 45, .ref 46, .ref 47, .ref 48, .ref 49, .ref 50, .ref 51, .ref 52, .ref 53, .ref 54, .ref 55, .ref 56, .ref 57, .ref 58, .ref 59, .ref 60, .ref 61, .ref 62, .ref 63, .ref 64, .ref 65, .ref 66, .ref 67, .ref 68, .ref 69, .ref 70, .ref 71, .ref 72, .ref 73, .ref 74, .ref 75, .ref 76, .ref 77, .ref 78, .ref 79, .ref 80, .ref 81, .ref 82, .ref 83, .ref 84, .ref 85, .ref 86, .ref 87, .ref 88, .ref 89, .ref 90, .ref 91, .ref 92, .ref 93, .ref 94, .ref 95, .ref 96, .ref 97, .ref 98, .ref 99, .ref 100, .ref 101, .ref 102, .ref 103, .ref 104, .ref 105, .ref 106, .ref 107, .ref 108, .ref 109, .ref 110, .ref 111, .ref 112, .ref 113, .ref 114, .ref 115, .ref 116, .ref 117, .ref 118, .ref 119, .ref 120, .ref 121, .ref 122, .ref 123, .ref 124, .ref 125, .ref 126, .ref 127, .ref 128, .ref 129, .ref 130, .ref 131, .ref 132, .ref 133, .ref 134, .ref 135, .ref 136, .ref 137, .ref 138, .ref 139, .ref 140, .ref 141, .ref 142, .ref 143, .ref 144, .ref 145, .ref 146, .ref 147, .ref 148, .ref 149, .ref 150, .ref 151, .ref 152, .ref 153, .ref 154, .ref 155, .ref 156, .ref 157, .ref 158, .ref 159, .ref 160, .ref 161, .ref 162, .ref 163, .ref 164, .ref 165, .ref 166, .ref 167, .ref 168, .ref 169, .ref 170, .ref 171, .ref 172, .ref 173, .ref 174, .ref 175, .ref 176, .ref 177, .ref 178, .ref 179, .ref 180, .ref 181, .ref 182, .ref 183, .ref 184, .ref 185, .ref 186, .ref 187, .ref 188, .ref 189, .ref 190, .ref 191, .ref 192, .ref 193, .ref 194, .ref 195, .ref 196, .ref 197, .ref 198, .ref 199, .ref 200, .ref 201, .ref 202, .ref 203, .ref 204, .ref 205, .ref 206, .ref 207, .ref 208, .ref 209, .ref 210, .ref 211, .ref 212, .ref 213, .ref 214, .ref 215, .ref 216, .ref 217, .ref 218, .ref 219, .ref 220, .ref 221, .ref 222, .ref 223, .ref 224, .ref 225, .ref 226, .ref 227, .ref 228, .ref 229, .ref 230, .ref 231, .ref 232, .ref 233, .ref 234, .ref 235, .ref 236, .ref 237, .ref 238, .ref 239, .ref 240, .ref 241, .ref 242, .ref 243, .ref 244, .ref 245, .ref 246, .ref 247, .ref 248, .ref 249, .ref 250, .ref 251, .ref 252, .ref 253, .ref 254, .ref 255, .ref 256, .ref 257, .ref 258, .ref 259, .ref 260, .ref 261, .ref 262, .ref 263, .ref 264, .ref 265, .ref 266], vm := .none },
  { cls := 31, slots := #[.ref 267, .ref 268, .ref 269, .ref 270, .ref 271, .ref 272, .ref 273, .ref 274, .ref 275, .ref 276, .ref 277, .ref 278, .ref 279, .ref 280, .ref 281, .ref 282, .ref 283, .ref 284, .ref 285, .ref 286, .ref 287, .ref 288, .ref 289, .ref 290, .ref 291, .ref 292, .ref 293, .ref 294, .ref 295, .ref 296, .ref 297, .ref 298, .ref 299, .ref 300, .ref 301, .ref 302, .ref 303, .ref 304, .ref 305, .ref 306, .ref 307, .ref 308, .ref 309, .ref 310, .ref 311, .ref 312, .ref 313, .ref 314, .ref 315, .ref 316, .ref 317, .ref 318, .ref 319, .ref 320, .ref 321, .ref 322, .ref 323, .ref 324, .ref 325, .ref 326, .ref 327, .ref 328, .ref 329, .ref 330, .ref 331, .ref 332, .ref 333, .ref 334, .ref 335, .ref 336, .ref 337, .ref 338, .ref 339, .ref 340, .ref 341, .ref 342, .ref 343, .ref 344, .ref 345, .ref 346, .ref 347, .ref 348, .ref 349, .ref 350, .ref 351, .ref 352, .ref 353, .ref 354, .ref 355, .ref 356, .ref 357, .ref 358, .ref 359, .ref 360, .ref 361, .ref 362, .ref 363, .ref 364, .ref 365, .ref 366, .ref 367, .ref 368, .ref 369, .ref 370, .ref 371, .ref 372, .ref 373, .ref 374, .ref 375, .ref 376, .ref 377, .ref 378, .ref 379, .ref 380, .ref 381, .ref 382, .ref 383, .ref 384, .ref 385, .ref 386, .ref 387, .ref 388, .ref 389, .ref 390, .ref 391, .ref 392, .ref 393, .ref 394, .ref 395, .ref 396, .ref 397, .ref 398, .ref 399, .ref 400, .ref 401, .ref 402, .ref 403, .ref 404, .ref 405, .ref 406, .ref 407, .ref 408, .ref 409, .ref 410, .ref 411, .ref 412, .ref 413, .ref 414, .ref 415, .ref 416, .ref 417, .ref 418, .ref 419, .ref 420, .ref 421, .ref 422, .ref 423, .ref 424, .ref 425, .ref 426, .ref 427, .ref 428, .ref 429, .ref 430, .ref 431, .ref 432, .ref 433, .ref 434, .ref 435, .ref 436, .ref 437, .ref 438, .ref 439, .ref 440, .ref 441, .ref 442, .ref 443, .ref 444, .ref 445, .ref 446, .ref 447, .ref 448, .ref 449, .ref 450, .ref 451, .ref 452, .ref 453, .ref 454, .ref 455, .ref 456, .ref 457, .ref 458, .ref 459, .ref 460, .ref 461, .ref 462, .ref 463, .ref 464, .ref 465, .ref 466, .ref 467, .ref 468, .ref 469, .ref 470, .ref 471, .ref 472, .ref 473, .ref 474, .ref 475, .ref 476, .ref 477, .ref 478, .ref 479, .ref 480, .ref 481, .ref 482, .ref 483, .ref 484, .ref 485, .ref 486, .ref 487, .ref 488, .ref 489, .ref 490, .ref 491, .ref 492, .ref 493, .ref 494, .ref 495, .ref 496, .ref 497, .ref 498, .ref 499, .ref 500, .ref 501, .ref 502, .ref 503, .ref 504, .ref 505, .ref 506, .ref 507, .ref 508, .ref 509, .ref 510, .ref 511, .ref 512, .ref 513, .ref 514, .ref 515, .ref 516, .ref 517, .ref 518, .ref 519, .ref 520, .ref 521, .ref 522], vm := .none },
  { cls := 12, slots := #[.null, .int 0, .int 0], vm := .none },
  { cls := 12, slots := #[.null, .int 1, .int 0], vm := .none },
  { cls := 14, slots := #[.null, .int 0, .int 0], vm := .none },
  { cls := 18, slots := #[.int (-128)], vm := .none },
  { cls := 18, slots := #[.int (-127)], vm := .none },
  { cls := 18, slots := #[.int (-126)], vm := .none },
  { cls := 18, slots := #[.int (-125)], vm := .none },
  { cls := 18, slots := #[.int (-124)], vm := .none },
  { cls := 18, slots := #[.int (-123)], vm := .none },
  { cls := 18, slots := #[.int (-122)], vm := .none },
  { cls := 18, slots := #[.int (-121)], vm := .none },
  { cls := 18, slots := #[.int (-120)], vm := .none },
  { cls := 18, slots := #[.int (-119)], vm := .none },
  { cls := 18, slots := #[.int (-118)], vm := .none },
  { cls := 18, slots := #[.int (-117)], vm := .none },
  { cls := 18, slots := #[.int (-116)], vm := .none },
  { cls := 18, slots := #[.int (-115)], vm := .none },
  { cls := 18, slots := #[.int (-114)], vm := .none },
  { cls := 18, slots := #[.int (-113)], vm := .none },
  { cls := 18, slots := #[.int (-112)], vm := .none },
  { cls := 18, slots := #[.int (-111)], vm := .none },
  { cls := 18, slots := #[.int (-110)], vm := .none },
  { cls := 18, slots := #[.int (-109)], vm := .none },
  { cls := 18, slots := #[.int (-108)], vm := .none },
  { cls := 18, slots := #[.int (-107)], vm := .none },
  { cls := 18, slots := #[.int (-106)], vm := .none },
  { cls := 18, slots := #[.int (-105)], vm := .none },
  { cls := 18, slots := #[.int (-104)], vm := .none },
  { cls := 18, slots := #[.int (-103)], vm := .none },
  { cls := 18, slots := #[.int (-102)], vm := .none },
  { cls := 18, slots := #[.int (-101)], vm := .none },
  { cls := 18, slots := #[.int (-100)], vm := .none },
  { cls := 18, slots := #[.int (-99)], vm := .none },
  { cls := 18, slots := #[.int (-98)], vm := .none },
  { cls := 18, slots := #[.int (-97)], vm := .none },
  { cls := 18, slots := #[.int (-96)], vm := .none },
  { cls := 18, slots := #[.int (-95)], vm := .none },
  { cls := 18, slots := #[.int (-94)], vm := .none },
  { cls := 18, slots := #[.int (-93)], vm := .none },
  { cls := 18, slots := #[.int (-92)], vm := .none },
  { cls := 18, slots := #[.int (-91)], vm := .none },
  { cls := 18, slots := #[.int (-90)], vm := .none },
  { cls := 18, slots := #[.int (-89)], vm := .none },
  { cls := 18, slots := #[.int (-88)], vm := .none },
  { cls := 18, slots := #[.int (-87)], vm := .none },
  { cls := 18, slots := #[.int (-86)], vm := .none },
  { cls := 18, slots := #[.int (-85)], vm := .none },
  { cls := 18, slots := #[.int (-84)], vm := .none },
  { cls := 18, slots := #[.int (-83)], vm := .none },
  { cls := 18, slots := #[.int (-82)], vm := .none },
  { cls := 18, slots := #[.int (-81)], vm := .none },
  { cls := 18, slots := #[.int (-80)], vm := .none },
  { cls := 18, slots := #[.int (-79)], vm := .none },
  { cls := 18, slots := #[.int (-78)], vm := .none },
  { cls := 18, slots := #[.int (-77)], vm := .none },
  { cls := 18, slots := #[.int (-76)], vm := .none },
  { cls := 18, slots := #[.int (-75)], vm := .none },
  { cls := 18, slots := #[.int (-74)], vm := .none },
  { cls := 18, slots := #[.int (-73)], vm := .none },
  { cls := 18, slots := #[.int (-72)], vm := .none },
  { cls := 18, slots := #[.int (-71)], vm := .none },
  { cls := 18, slots := #[.int (-70)], vm := .none },
  { cls := 18, slots := #[.int (-69)], vm := .none },
  { cls := 18, slots := #[.int (-68)], vm := .none },
  { cls := 18, slots := #[.int (-67)], vm := .none },
  { cls := 18, slots := #[.int (-66)], vm := .none },
  { cls := 18, slots := #[.int (-65)], vm := .none },
  { cls := 18, slots := #[.int (-64)], vm := .none },
  { cls := 18, slots := #[.int (-63)], vm := .none },
  { cls := 18, slots := #[.int (-62)], vm := .none },
  { cls := 18, slots := #[.int (-61)], vm := .none },
  { cls := 18, slots := #[.int (-60)], vm := .none },
  { cls := 18, slots := #[.int (-59)], vm := .none },
  { cls := 18, slots := #[.int (-58)], vm := .none },
  { cls := 18, slots := #[.int (-57)], vm := .none },
  { cls := 18, slots := #[.int (-56)], vm := .none },
  { cls := 18, slots := #[.int (-55)], vm := .none },
  { cls := 18, slots := #[.int (-54)], vm := .none },
  { cls := 18, slots := #[.int (-53)], vm := .none },
  { cls := 18, slots := #[.int (-52)], vm := .none },
  { cls := 18, slots := #[.int (-51)], vm := .none },
  { cls := 18, slots := #[.int (-50)], vm := .none },
  { cls := 18, slots := #[.int (-49)], vm := .none },
  { cls := 18, slots := #[.int (-48)], vm := .none },
  { cls := 18, slots := #[.int (-47)], vm := .none },
  { cls := 18, slots := #[.int (-46)], vm := .none },
  { cls := 18, slots := #[.int (-45)], vm := .none },
  { cls := 18, slots := #[.int (-44)], vm := .none },
  { cls := 18, slots := #[.int (-43)], vm := .none },
  { cls := 18, slots := #[.int (-42)], vm := .none },
  { cls := 18, slots := #[.int (-41)], vm := .none },
  { cls := 18, slots := #[.int (-40)], vm := .none },
  { cls := 18, slots := #[.int (-39)], vm := .none },
  { cls := 18, slots := #[.int (-38)], vm := .none },
  { cls := 18, slots := #[.int (-37)], vm := .none },
  { cls := 18, slots := #[.int (-36)], vm := .none },
  { cls := 18, slots := #[.int (-35)], vm := .none },
  { cls := 18, slots := #[.int (-34)], vm := .none },
  { cls := 18, slots := #[.int (-33)], vm := .none },
  { cls := 18, slots := #[.int (-32)], vm := .none },
  { cls := 18, slots := #[.int (-31)], vm := .none },
  { cls := 18, slots := #[.int (-30)], vm := .none },
  { cls := 18, slots := #[.int (-29)], vm := .none },
  { cls := 18, slots := #[.int (-28)], vm := .none },
  { cls := 18, slots := #[.int (-27)], vm := .none },
  { cls := 18, slots := #[.int (-26)], vm := .none },
  { cls := 18, slots := #[.int (-25)], vm := .none },
  { cls := 18, slots := #[.int (-24)], vm := .none },
  { cls := 18, slots := #[.int (-23)], vm := .none },
  { cls := 18, slots := #[.int (-22)], vm := .none },
  { cls := 18, slots := #[.int (-21)], vm := .none },
  { cls := 18, slots := #[.int (-20)], vm := .none },
  { cls := 18, slots := #[.int (-19)], vm := .none },
  { cls := 18, slots := #[.int (-18)], vm := .none },
  { cls := 18, slots := #[.int (-17)], vm := .none },
  { cls := 18, slots := #[.int (-16)], vm := .none },
  { cls := 18, slots := #[.int (-15)], vm := .none },
  { cls := 18, slots := #[.int (-14)], vm := .none },
  { cls := 18, slots := #[.int (-13)], vm := .none },
  { cls := 18, slots := #[.int (-12)], vm := .none },
  { cls := 18, slots := #[.int (-11)], vm := .none },
  { cls := 18, slots := #[.int (-10)], vm := .none },
  { cls := 18, slots := #[.int (-9)], vm := .none },
  { cls := 18, slots := #[.int (-8)], vm := .none },
  { cls := 18, slots := #[.int (-7)], vm := .none },
  { cls := 18, slots := #[.int (-6)], vm := .none },
  { cls := 18, slots := #[.int (-5)], vm := .none },
  { cls := 18, slots := #[.int (-4)], vm := .none },
  { cls := 18, slots := #[.int (-3)], vm := .none },
  { cls := 18, slots := #[.int (-2)], vm := .none },
  { cls := 18, slots := #[.int (-1)], vm := .none },
  { cls := 18, slots := #[.int (0)], vm := .none },
  { cls := 18, slots := #[.int (1)], vm := .none },
  { cls := 18, slots := #[.int (2)], vm := .none },
  { cls := 18, slots := #[.int (3)], vm := .none },
  { cls := 18, slots := #[.int (4)], vm := .none },
  { cls := 18, slots := #[.int (5)], vm := .none },
  { cls := 18, slots := #[.int (6)], vm := .none },
  { cls := 18, slots := #[.int (7)], vm := .none },
  { cls := 18, slots := #[.int (8)], vm := .none },
  { cls := 18, slots := #[.int (9)], vm := .none },
  { cls := 18, slots := #[.int (10)], vm := .none },
  { cls := 18, slots := #[.int (11)], vm := .none },
  { cls := 18, slots := #[.int (12)], vm := .none },
  { cls := 18, slots := #[.int (13)], vm := .none },
  { cls := 18, slots := #[.int (14)], vm := .none },
  { cls := 18, slots := #[.int (15)], vm := .none },
  { cls := 18, slots := #[.int (16)], vm := .none },
  { cls := 18, slots := #[.int (17)], vm := .none },
  { cls := 18, slots := #[.int (18)], vm := .none },
  { cls := 18, slots := #[.int (19)], vm := .none },
  { cls := 18, slots := #[.int (20)], vm := .none },
  { cls := 18, slots := #[.int (21)], vm := .none },
  { cls := 18, slots := #[.int (22)], vm := .none },
  { cls := 18, slots := #[.int (23)], vm := .none },
  { cls := 18, slots := #[.int (24)], vm := .none },
  { cls := 18, slots := #[.int (25)], vm := .none },
  { cls := 18, slots := #[.int (26)], vm := .none },
  { cls := 18, slots := #[.int (27)], vm := .none },
  { cls := 18, slots := #[.int (28)], vm := .none },
  { cls := 18, slots := #[.int (29)], vm := .none },
  { cls := 18, slots := #[.int (30)], vm := .none },
  { cls := 18, slots := #[.int (31)], vm := .none },
  { cls := 18, slots := #[.int (32)], vm := .none },
  { cls := 18, slots := #[.int (33)], vm := .none },
  { cls := 18, slots := #[.int (34)], vm := .none },
  { cls := 18, slots := #[.int (35)], vm := .none },
  { cls := 18, slots := #[.int (36)], vm := .none },
  { cls := 18, slots := #[.int (37)], vm := .none },
  { cls := 18, slots := #[.int (38)], vm := .none },
  { cls := 18, slots := #[.int (39)], vm := .none },
  { cls := 18, slots := #[.int (40)], vm := .none },
  { cls := 18, slots := #[.int (41)], vm := .none },
  { cls := 18, slots := #[.int (42)], vm := .none },
  { cls := 18, slots := #[.int (43)], vm := .none },
  { cls := 18, slots := #[.int (44)], vm := .none },
  { cls := 18, slots := #[.int (45)], vm := .none },
  { cls := 18, slots := #[.int (46)], vm := .none },
  { cls := 18, slots := #[.int (47)], vm := .none },
  { cls := 18, slots := #[.int (48)], vm := .none },
  { cls := 18, slots := #[.int (49)], vm := .none },
  { cls := 18, slots := #[.int (50)], vm := .none },
  { cls := 18, slots := #[.int (51)], vm := .none },
  { cls := 18, slots := #[.int (52)], vm := .none },
  { cls := 18, slots := #[.int (53)], vm := .none },
  { cls := 18, slots := #[.int (54)], vm := .none },
  { cls := 18, slots := #[.int (55)], vm := .none },
  { cls := 18, slots := #[.int (56)], vm := .none },
  { cls := 18, slots := #[.int (57)], vm := .none },
  { cls := 18, slots := #[.int (58)], vm := .none },
  { cls := 18, slots := #[.int (59)], vm := .none },
  { cls := 18, slots := #[.int (60)], vm := .none },
  { cls := 18, slots := #[.int (61)], vm := .none },
  { cls := 18, slots := #[.int (62)], vm := .none },
  { cls := 18, slots := #[.int (63)], vm := .none },
  { cls := 18, slots := #[.int (64)], vm := .none },
  { cls := 18, slots := #[.int (65)], vm := .none },
  { cls := 18, slots := #[.int (66)], vm := .none },
  { cls := 18, slots := #[.int (67)], vm := .none },
  { cls := 18, slots := #[.int (68)], vm := .none },
  { cls := 18, slots := #[.int (69)], vm := .none },
  { cls := 18, slots := #[.int (70)], vm := .none },
  { cls := 18, slots := #[.int (71)], vm := .none },
  { cls := 18, slots := #[.int (72)], vm := .none },
  { cls := 18, slots := #[.int (73)], vm := .none },
  { cls := 18, slots := #[.int (74)], vm := .none },
  { cls := 18, slots := #[.int (75)], vm := .none },
  { cls := 18, slots := #[.int (76)], vm := .none },
  { cls := 18, slots := #[.int (77)], vm := .none },
  { cls := 18, slots := #[.int (78)], vm := .none },
  { cls := 18, slots := #[.int (79)], vm := .none },
  { cls := 18, slots := #[.int (80)], vm := .none },
  { cls := 18, slots := #[.int (81)], vm := .none },
  { cls := 18, slots := #[.int (82)], vm := .none },
  { cls := 18, slots := #[.int (83)], vm := .none },
  { cls := 18, slots := #[.int (84)], vm := .none },
  { cls := 18, slots := #[.int (85)], vm := .none },
  { cls := 18, slots := #[.int (86)], vm := .none },
  { cls := 18, slots := #[.int (87)], vm := .none },
  { cls := 18, slots := #[.int (88)], vm := .none },
  { cls := 18, slots := #[.int (89)], vm := .none },
  { cls := 18, slots := #[.int (90)], vm := .none },
  { cls := 18, slots := #[.int (91)], vm := .none },
  { cls := 18, slots := #[.int (92)], vm := .none },
  { cls := 18, slots := #[.int (93)], vm := .none },
  { cls := 18, slots := #[.int (94)], vm := .none },
  { cls := 18, slots := #[.int (95)], vm := .none },
  { cls := 18, slots := #[.int (96)], vm := .none },
  { cls := 18, slots := #[.int (97)], vm := .none },
  { cls := 18, slots := #[.int (98)], vm := .none },
  { cls := 18, slots := #[.int (99)], vm := .none },
  { cls := 18, slots := #[.int (100)], vm := .none },
  { cls := 18, slots := #[.int (101)], vm := .none },
  { cls := 18, slots := #[.int (102)], vm := .none },
  { cls := 18, slots := #[.int (103)], vm := .none },
  { cls := 18, slots := #[.int (104)], vm := .none },
  { cls := 18, slots := #[.int (105)], vm := .none },
  { cls := 18, slots := #[.int (106)], vm := .none },
  { cls := 18, slots := #[.int (107)], vm := .none },
  { cls := 18, slots := #[.int (108)], vm := .none },
  { cls := 18, slots := #[.int (109)], vm := .none },
  { cls := 18, slots := #[.int (110)], vm := .none },
  { cls := 18, slots := #[.int (111)], vm := .none },
  { cls := 18, slots := #[.int (112)], vm := .none },
  { cls := 18, slots := #[.int (113)], vm := .none },
  { cls := 18, slots := #[.int (114)], vm := .none },
  { cls := 18, slots := #[.int (115)], vm := .none },
  { cls := 18, slots := #[.int (116)], vm := .none },
  { cls := 18, slots := #[.int (117)], vm := .none },
  { cls := 18, slots := #[.int (118)], vm := .none },
  { cls := 18, slots := #[.int (119)], vm := .none },
  { cls := 18, slots := #[.int (120)], vm := .none },
  { cls := 18, slots := #[.int (121)], vm := .none },
  { cls := 18, slots := #[.int (122)], vm := .none },
  { cls := 18, slots := #[.int (123)], vm := .none },
  { cls := 18, slots := #[.int (124)], vm := .none },
  { cls := 18, slots := #[.int (125)], vm := .none },
  { cls := 18, slots := #[.int (126)], vm := .none },
  { cls := 18, slots := #[.int (127)], vm := .none },
  { cls := 17, slots := #[.long (-128)], vm := .none },
  { cls := 17, slots := #[.long (-127)], vm := .none },
  { cls := 17, slots := #[.long (-126)], vm := .none },
  { cls := 17, slots := #[.long (-125)], vm := .none },
  { cls := 17, slots := #[.long (-124)], vm := .none },
  { cls := 17, slots := #[.long (-123)], vm := .none },
  { cls := 17, slots := #[.long (-122)], vm := .none },
  { cls := 17, slots := #[.long (-121)], vm := .none },
  { cls := 17, slots := #[.long (-120)], vm := .none },
  { cls := 17, slots := #[.long (-119)], vm := .none },
  { cls := 17, slots := #[.long (-118)], vm := .none },
  { cls := 17, slots := #[.long (-117)], vm := .none },
  { cls := 17, slots := #[.long (-116)], vm := .none },
  { cls := 17, slots := #[.long (-115)], vm := .none },
  { cls := 17, slots := #[.long (-114)], vm := .none },
  { cls := 17, slots := #[.long (-113)], vm := .none },
  { cls := 17, slots := #[.long (-112)], vm := .none },
  { cls := 17, slots := #[.long (-111)], vm := .none },
  { cls := 17, slots := #[.long (-110)], vm := .none },
  { cls := 17, slots := #[.long (-109)], vm := .none },
  { cls := 17, slots := #[.long (-108)], vm := .none },
  { cls := 17, slots := #[.long (-107)], vm := .none },
  { cls := 17, slots := #[.long (-106)], vm := .none },
  { cls := 17, slots := #[.long (-105)], vm := .none },
  { cls := 17, slots := #[.long (-104)], vm := .none },
  { cls := 17, slots := #[.long (-103)], vm := .none },
  { cls := 17, slots := #[.long (-102)], vm := .none },
  { cls := 17, slots := #[.long (-101)], vm := .none },
  { cls := 17, slots := #[.long (-100)], vm := .none },
  { cls := 17, slots := #[.long (-99)], vm := .none },
  { cls := 17, slots := #[.long (-98)], vm := .none },
  { cls := 17, slots := #[.long (-97)], vm := .none },
  { cls := 17, slots := #[.long (-96)], vm := .none },
  { cls := 17, slots := #[.long (-95)], vm := .none },
  { cls := 17, slots := #[.long (-94)], vm := .none },
  { cls := 17, slots := #[.long (-93)], vm := .none },
  { cls := 17, slots := #[.long (-92)], vm := .none },
  { cls := 17, slots := #[.long (-91)], vm := .none },
  { cls := 17, slots := #[.long (-90)], vm := .none },
  { cls := 17, slots := #[.long (-89)], vm := .none },
  { cls := 17, slots := #[.long (-88)], vm := .none },
  { cls := 17, slots := #[.long (-87)], vm := .none },
  { cls := 17, slots := #[.long (-86)], vm := .none },
  { cls := 17, slots := #[.long (-85)], vm := .none },
  { cls := 17, slots := #[.long (-84)], vm := .none },
  { cls := 17, slots := #[.long (-83)], vm := .none },
  { cls := 17, slots := #[.long (-82)], vm := .none },
  { cls := 17, slots := #[.long (-81)], vm := .none },
  { cls := 17, slots := #[.long (-80)], vm := .none },
  { cls := 17, slots := #[.long (-79)], vm := .none },
  { cls := 17, slots := #[.long (-78)], vm := .none },
  { cls := 17, slots := #[.long (-77)], vm := .none },
  { cls := 17, slots := #[.long (-76)], vm := .none },
  { cls := 17, slots := #[.long (-75)], vm := .none },
  { cls := 17, slots := #[.long (-74)], vm := .none },
  { cls := 17, slots := #[.long (-73)], vm := .none },
  { cls := 17, slots := #[.long (-72)], vm := .none },
  { cls := 17, slots := #[.long (-71)], vm := .none },
  { cls := 17, slots := #[.long (-70)], vm := .none },
  { cls := 17, slots := #[.long (-69)], vm := .none },
  { cls := 17, slots := #[.long (-68)], vm := .none },
  { cls := 17, slots := #[.long (-67)], vm := .none },
  { cls := 17, slots := #[.long (-66)], vm := .none },
  { cls := 17, slots := #[.long (-65)], vm := .none },
  { cls := 17, slots := #[.long (-64)], vm := .none },
  { cls := 17, slots := #[.long (-63)], vm := .none },
  { cls := 17, slots := #[.long (-62)], vm := .none },
  { cls := 17, slots := #[.long (-61)], vm := .none },
  { cls := 17, slots := #[.long (-60)], vm := .none },
  { cls := 17, slots := #[.long (-59)], vm := .none },
  { cls := 17, slots := #[.long (-58)], vm := .none },
  { cls := 17, slots := #[.long (-57)], vm := .none },
  { cls := 17, slots := #[.long (-56)], vm := .none },
  { cls := 17, slots := #[.long (-55)], vm := .none },
  { cls := 17, slots := #[.long (-54)], vm := .none },
  { cls := 17, slots := #[.long (-53)], vm := .none },
  { cls := 17, slots := #[.long (-52)], vm := .none },
  { cls := 17, slots := #[.long (-51)], vm := .none },
  { cls := 17, slots := #[.long (-50)], vm := .none },
  { cls := 17, slots := #[.long (-49)], vm := .none },
  { cls := 17, slots := #[.long (-48)], vm := .none },
  { cls := 17, slots := #[.long (-47)], vm := .none },
  { cls := 17, slots := #[.long (-46)], vm := .none },
  { cls := 17, slots := #[.long (-45)], vm := .none },
  { cls := 17, slots := #[.long (-44)], vm := .none },
  { cls := 17, slots := #[.long (-43)], vm := .none },
  { cls := 17, slots := #[.long (-42)], vm := .none },
  { cls := 17, slots := #[.long (-41)], vm := .none },
  { cls := 17, slots := #[.long (-40)], vm := .none },
  { cls := 17, slots := #[.long (-39)], vm := .none },
  { cls := 17, slots := #[.long (-38)], vm := .none },
  { cls := 17, slots := #[.long (-37)], vm := .none },
  { cls := 17, slots := #[.long (-36)], vm := .none },
  { cls := 17, slots := #[.long (-35)], vm := .none },
  { cls := 17, slots := #[.long (-34)], vm := .none },
  { cls := 17, slots := #[.long (-33)], vm := .none },
  { cls := 17, slots := #[.long (-32)], vm := .none },
  { cls := 17, slots := #[.long (-31)], vm := .none },
  { cls := 17, slots := #[.long (-30)], vm := .none },
  { cls := 17, slots := #[.long (-29)], vm := .none },
  { cls := 17, slots := #[.long (-28)], vm := .none },
  { cls := 17, slots := #[.long (-27)], vm := .none },
  { cls := 17, slots := #[.long (-26)], vm := .none },
  { cls := 17, slots := #[.long (-25)], vm := .none },
  { cls := 17, slots := #[.long (-24)], vm := .none },
  { cls := 17, slots := #[.long (-23)], vm := .none },
  { cls := 17, slots := #[.long (-22)], vm := .none },
  { cls := 17, slots := #[.long (-21)], vm := .none },
  { cls := 17, slots := #[.long (-20)], vm := .none },
  { cls := 17, slots := #[.long (-19)], vm := .none },
  { cls := 17, slots := #[.long (-18)], vm := .none },
  { cls := 17, slots := #[.long (-17)], vm := .none },
  { cls := 17, slots := #[.long (-16)], vm := .none },
  { cls := 17, slots := #[.long (-15)], vm := .none },
  { cls := 17, slots := #[.long (-14)], vm := .none },
  { cls := 17, slots := #[.long (-13)], vm := .none },
  { cls := 17, slots := #[.long (-12)], vm := .none },
  { cls := 17, slots := #[.long (-11)], vm := .none },
  { cls := 17, slots := #[.long (-10)], vm := .none },
  { cls := 17, slots := #[.long (-9)], vm := .none },
  { cls := 17, slots := #[.long (-8)], vm := .none },
  { cls := 17, slots := #[.long (-7)], vm := .none },
  { cls := 17, slots := #[.long (-6)], vm := .none },
  { cls := 17, slots := #[.long (-5)], vm := .none },
  { cls := 17, slots := #[.long (-4)], vm := .none },
  { cls := 17, slots := #[.long (-3)], vm := .none },
  { cls := 17, slots := #[.long (-2)], vm := .none },
  { cls := 17, slots := #[.long (-1)], vm := .none },
  { cls := 17, slots := #[.long (0)], vm := .none },
  { cls := 17, slots := #[.long (1)], vm := .none },
  { cls := 17, slots := #[.long (2)], vm := .none },
  { cls := 17, slots := #[.long (3)], vm := .none },
  { cls := 17, slots := #[.long (4)], vm := .none },
  { cls := 17, slots := #[.long (5)], vm := .none },
  { cls := 17, slots := #[.long (6)], vm := .none },
  { cls := 17, slots := #[.long (7)], vm := .none },
  { cls := 17, slots := #[.long (8)], vm := .none },
  { cls := 17, slots := #[.long (9)], vm := .none },
  { cls := 17, slots := #[.long (10)], vm := .none },
  { cls := 17, slots := #[.long (11)], vm := .none },
  { cls := 17, slots := #[.long (12)], vm := .none },
  { cls := 17, slots := #[.long (13)], vm := .none },
  { cls := 17, slots := #[.long (14)], vm := .none },
  { cls := 17, slots := #[.long (15)], vm := .none },
  { cls := 17, slots := #[.long (16)], vm := .none },
  { cls := 17, slots := #[.long (17)], vm := .none },
  { cls := 17, slots := #[.long (18)], vm := .none },
  { cls := 17, slots := #[.long (19)], vm := .none },
  { cls := 17, slots := #[.long (20)], vm := .none },
  { cls := 17, slots := #[.long (21)], vm := .none },
  { cls := 17, slots := #[.long (22)], vm := .none },
  { cls := 17, slots := #[.long (23)], vm := .none },
  { cls := 17, slots := #[.long (24)], vm := .none },
  { cls := 17, slots := #[.long (25)], vm := .none },
  { cls := 17, slots := #[.long (26)], vm := .none },
  { cls := 17, slots := #[.long (27)], vm := .none },
  { cls := 17, slots := #[.long (28)], vm := .none },
  { cls := 17, slots := #[.long (29)], vm := .none },
  { cls := 17, slots := #[.long (30)], vm := .none },
  { cls := 17, slots := #[.long (31)], vm := .none },
  { cls := 17, slots := #[.long (32)], vm := .none },
  { cls := 17, slots := #[.long (33)], vm := .none },
  { cls := 17, slots := #[.long (34)], vm := .none },
  { cls := 17, slots := #[.long (35)], vm := .none },
  { cls := 17, slots := #[.long (36)], vm := .none },
  { cls := 17, slots := #[.long (37)], vm := .none },
  { cls := 17, slots := #[.long (38)], vm := .none },
  { cls := 17, slots := #[.long (39)], vm := .none },
  { cls := 17, slots := #[.long (40)], vm := .none },
  { cls := 17, slots := #[.long (41)], vm := .none },
  { cls := 17, slots := #[.long (42)], vm := .none },
  { cls := 17, slots := #[.long (43)], vm := .none },
  { cls := 17, slots := #[.long (44)], vm := .none },
  { cls := 17, slots := #[.long (45)], vm := .none },
  { cls := 17, slots := #[.long (46)], vm := .none },
  { cls := 17, slots := #[.long (47)], vm := .none },
  { cls := 17, slots := #[.long (48)], vm := .none },
  { cls := 17, slots := #[.long (49)], vm := .none },
  { cls := 17, slots := #[.long (50)], vm := .none },
  { cls := 17, slots := #[.long (51)], vm := .none },
  { cls := 17, slots := #[.long (52)], vm := .none },
  { cls := 17, slots := #[.long (53)], vm := .none },
  { cls := 17, slots := #[.long (54)], vm := .none },
  { cls := 17, slots := #[.long (55)], vm := .none },
  { cls := 17, slots := #[.long (56)], vm := .none },
  { cls := 17, slots := #[.long (57)], vm := .none },
  { cls := 17, slots := #[.long (58)], vm := .none },
  { cls := 17, slots := #[.long (59)], vm := .none },
  { cls := 17, slots := #[.long (60)], vm := .none },
  { cls := 17, slots := #[.long (61)], vm := .none },
  { cls := 17, slots := #[.long (62)], vm := .none },
  { cls := 17, slots := #[.long (63)], vm := .none },
  { cls := 17, slots := #[.long (64)], vm := .none },
  { cls := 17, slots := #[.long (65)], vm := .none },
  { cls := 17, slots := #[.long (66)], vm := .none },
  { cls := 17, slots := #[.long (67)], vm := .none },
  { cls := 17, slots := #[.long (68)], vm := .none },
  { cls := 17, slots := #[.long (69)], vm := .none },
  { cls := 17, slots := #[.long (70)], vm := .none },
  { cls := 17, slots := #[.long (71)], vm := .none },
  { cls := 17, slots := #[.long (72)], vm := .none },
  { cls := 17, slots := #[.long (73)], vm := .none },
  { cls := 17, slots := #[.long (74)], vm := .none },
  { cls := 17, slots := #[.long (75)], vm := .none },
  { cls := 17, slots := #[.long (76)], vm := .none },
  { cls := 17, slots := #[.long (77)], vm := .none },
  { cls := 17, slots := #[.long (78)], vm := .none },
  { cls := 17, slots := #[.long (79)], vm := .none },
  { cls := 17, slots := #[.long (80)], vm := .none },
  { cls := 17, slots := #[.long (81)], vm := .none },
  { cls := 17, slots := #[.long (82)], vm := .none },
  { cls := 17, slots := #[.long (83)], vm := .none },
  { cls := 17, slots := #[.long (84)], vm := .none },
  { cls := 17, slots := #[.long (85)], vm := .none },
  { cls := 17, slots := #[.long (86)], vm := .none },
  { cls := 17, slots := #[.long (87)], vm := .none },
  { cls := 17, slots := #[.long (88)], vm := .none },
  { cls := 17, slots := #[.long (89)], vm := .none },
  { cls := 17, slots := #[.long (90)], vm := .none },
  { cls := 17, slots := #[.long (91)], vm := .none },
  { cls := 17, slots := #[.long (92)], vm := .none },
  { cls := 17, slots := #[.long (93)], vm := .none },
  { cls := 17, slots := #[.long (94)], vm := .none },
  { cls := 17, slots := #[.long (95)], vm := .none },
  { cls := 17, slots := #[.long (96)], vm := .none },
  { cls := 17, slots := #[.long (97)], vm := .none },
  { cls := 17, slots := #[.long (98)], vm := .none },
  { cls := 17, slots := #[.long (99)], vm := .none },
  { cls := 17, slots := #[.long (100)], vm := .none },
  { cls := 17, slots := #[.long (101)], vm := .none },
  { cls := 17, slots := #[.long (102)], vm := .none },
  { cls := 17, slots := #[.long (103)], vm := .none },
  { cls := 17, slots := #[.long (104)], vm := .none },
  { cls := 17, slots := #[.long (105)], vm := .none },
  { cls := 17, slots := #[.long (106)], vm := .none },
  { cls := 17, slots := #[.long (107)], vm := .none },
  { cls := 17, slots := #[.long (108)], vm := .none },
  { cls := 17, slots := #[.long (109)], vm := .none },
  { cls := 17, slots := #[.long (110)], vm := .none },
  { cls := 17, slots := #[.long (111)], vm := .none },
  { cls := 17, slots := #[.long (112)], vm := .none },
  { cls := 17, slots := #[.long (113)], vm := .none },
  { cls := 17, slots := #[.long (114)], vm := .none },
  { cls := 17, slots := #[.long (115)], vm := .none },
  { cls := 17, slots := #[.long (116)], vm := .none },
  { cls := 17, slots := #[.long (117)], vm := .none },
  { cls := 17, slots := #[.long (118)], vm := .none },
  { cls := 17, slots := #[.long (119)], vm := .none },
  { cls := 17, slots := #[.long (120)], vm := .none },
  { cls := 17, slots := #[.long (121)], vm := .none },
  { cls := 17, slots := #[.long (122)], vm := .none },
  { cls := 17, slots := #[.long (123)], vm := .none },
  { cls := 17, slots := #[.long (124)], vm := .none },
  { cls := 17, slots := #[.long (125)], vm := .none },
  { cls := 17, slots := #[.long (126)], vm := .none },
  { cls := 17, slots := #[.long (127)], vm := .none }]
def classes : Array Class := #[k0, k1, k2, k3, k4, k5, k6, k7, k8, k9, k10, k11, k12, k13, k14, k15, k16, k17, k18, k19, k20, k21, k22, k23, k24, k25, k26, k27, k28, k29, k30, k31]
def interned : List (Array UInt16 × Addr) := []
def slotsUsed : Nat := 1059
def theMethod : MethodId := ⟨1, 2⟩
def args0 : Array Value := #[.int 7, .long 5, .long 6, .int 8, .int 3]
def aboutOver (below : List Frame) : State where
  vm := { classes := classes, interned := interned.toArray }
  heap := heap
  slotsUsed := slotsUsed
  threads := #[{ frames := .invoking theMethod args0 :: below }]
def below0 : List Frame := [.native { method := ⟨0, 0⟩, args := #[] }]
def about1 : State := aboutOver below0
def p0 : Program := .bare "" "" ""
def e0 : Env := launch0.env 0 0 0
theorem w_frames : about1.frames = Frame.invoking theMethod args0 :: below0 := rfl
set_option maxRecDepth 65536 in
theorem w_args : argsFit about1.vm theMethod args0 = true := by decide +kernel
set_option maxRecDepth 65536 in
theorem w_heap : heapFits about1 = true := by decide +kernel
set_option maxRecDepth 65536 in
theorem w_runnable : about1.curStatus? = some .runnable := by decide +kernel
set_option maxRecDepth 65536 in
theorem w_alone : about1.alone = true := by decide +kernel
set_option maxRecDepth 65536 in
theorem w_named : about1.methodNamed? x = some theMethod := by decide +kernel
set_option maxRecDepth 65536 in
theorem w_hears : about1.hears theMethod below0 = true := by decide +kernel
set_option maxRecDepth 65536 in
theorem w_ripe : about1.ripe theMethod args0 below0 = true := by decide +kernel
theorem w_running : about1.status = .running := rfl
set_option maxRecDepth 65536 in
theorem w_room : about1.hasRoom e0.platform room_1 = true :=
  launch0.hasRoom_least _ room_1 (by decide +kernel) (by decide +kernel) (by decide +kernel) (by decide +kernel) (by decide +kernel) (by decide +kernel)
theorem allAtoms_all (ts : List Jvm.Cond) (a : Array Jvm.Value) (st : Jvm.State) : (allAtoms ts).before a st = ts.all (fun c => c.before a st) := by
  induction ts with
  | nil => rfl
  | cons c t ih =>
    show (Jvm.Cond.and c (allAtoms t)).before a st = _
    rw [Jvm.Cond.before_and, ih, List.all_cons]
def words1 : List Jvm.Cond := Jvm.Cond.code x code maxLocals ret :: tables_1
/-- a 'code' word, met by the world's own term for the bytes: nothing is compared byte by byte -/
theorem code_word {y : MethodName} {bytes : ByteArray} {mx : Nat} {rt : Option FieldType} {a : Array Value} {s : State} {m : MethodId} {meth : Method} {c : Code} (h1 : s.methodNamed? y = some m) (h2 : s.vm.method? m = some meth) (h3 : meth.code = some c) (h4 : c.code = bytes)
    (h5 : (c.maxLocals == mx && c.exceptionTable.isEmpty && decide (c.maxStack ≤ mostOperands) && decide (meth.sig.returnType = rt) && !meth.locks && decide (parseMethodDescriptor y.desc = some meth.sig)) = true) : (Jvm.Cond.code y bytes mx rt).before a s = true := by
  simp only [Bool.and_eq_true, beq_iff_eq, Bool.not_eq_true', decide_eq_true_eq] at h5
  obtain ⟨⟨⟨⟨⟨g1, g2⟩, g3⟩, g4⟩, g5⟩, g6⟩ := h5
  simp [Cond.before, Cond.holds, Cond.value, h1, h2, h3, h4, g1, g2, g3, g4, g5, g6]
def isCode : Jvm.Cond → Bool
  | .code _ _ _ _ => true
  | _ => false
theorem all_split {L : List Jvm.Cond} {P : Jvm.Cond → Bool} (h1 : L.all (fun c => isCode c || P c) = true) (h2 : ∀ c ∈ L.filter isCode, P c = true) : L.all P = true := by
  refine List.all_eq_true.mpr fun c hc => ?_
  have h := List.all_eq_true.mp h1 c hc
  rcases Bool.eq_false_or_eq_true (isCode c) with hi | hi
  · exact h2 c (List.mem_filter.mpr ⟨hc, hi⟩)
  · simpa [hi] using h
set_option maxRecDepth 65536 in
theorem w_c0 : (Jvm.Cond.code x code maxLocals ret).before args0 about1 = true := code_word (m := ⟨1, 2⟩) (meth := k1m2) (c := k1c2) (by decide +kernel) rfl rfl rfl (by decide +kernel)
set_option maxRecDepth 65536 in
theorem w_c1 : (Jvm.Cond.code ({ cls := "com/example/delayed_task_dispatch/delayedtaskdispatch/model/TaskPendingPinLaw", name := "draw", desc := "(II)Ljava/lang/String;" } : Jvm.MethodName) method_2_code (4 : Nat) (Option.some (Jvm.ClassFile.FieldType.object "java/lang/String"))).before args0 about1 = true := code_word (m := ⟨1, 1⟩) (meth := k1m1) (c := k1c1) (by decide +kernel) rfl rfl rfl (by decide +kernel)
set_option maxRecDepth 65536 in
theorem w_c2 : (Jvm.Cond.code ({ cls := "java/lang/String", name := "<init>", desc := "([C)V" } : Jvm.MethodName) jdk_42_method_3_code (2 : Nat) (Option.none : Option Jvm.ClassFile.FieldType)).before args0 about1 = true := code_word (m := ⟨7, 1⟩) (meth := k7m1) (c := k7c1) (by decide +kernel) rfl rfl rfl (by decide +kernel)
set_option maxRecDepth 65536 in
theorem w_c3 : (Jvm.Cond.code ({ cls := "java/lang/String", name := "<init>", desc := "([CIILjava/lang/Void;)V" } : Jvm.MethodName) jdk_42_method_149_code (6 : Nat) (Option.none : Option Jvm.ClassFile.FieldType)).before args0 about1 = true := code_word (m := ⟨7, 4⟩) (meth := k7m4) (c := k7c4) (by decide +kernel) rfl rfl rfl (by decide +kernel)
set_option maxRecDepth 65536 in
theorem w_c4 : (Jvm.Cond.code ({ cls := "java/lang/Object", name := "<init>", desc := "()V" } : Jvm.MethodName) object_method_1_code (1 : Nat) (Option.none : Option Jvm.ClassFile.FieldType)).before args0 about1 = true := code_word (m := ⟨0, 0⟩) (meth := k0m0) (c := k0c0) (by decide +kernel) rfl rfl rfl (by decide +kernel)
set_option maxRecDepth 65536 in
theorem w_c5 : (Jvm.Cond.code ({ cls := "java/lang/String", name := "valueOf", desc := "(C)Ljava/lang/String;" } : Jvm.MethodName) jdk_42_method_139_code (1 : Nat) (Option.some (Jvm.ClassFile.FieldType.object "java/lang/String"))).before args0 about1 = true := code_word (m := ⟨7, 3⟩) (meth := k7m3) (c := k7c3) (by decide +kernel) rfl rfl rfl (by decide +kernel)
set_option maxRecDepth 65536 in
theorem w_c6 : (Jvm.Cond.code ({ cls := "java/lang/StringLatin1", name := "canEncode", desc := "(C)Z" } : Jvm.MethodName) jdk_43_method_3_code (1 : Nat) (Option.some Jvm.ClassFile.FieldType.boolean)).before args0 about1 = true := code_word (m := ⟨8, 1⟩) (meth := k8m1) (c := k8c1) (by decide +kernel) rfl rfl rfl (by decide +kernel)
set_option maxRecDepth 65536 in
theorem w_c7 : (Jvm.Cond.code ({ cls := "java/lang/StringLatin1", name := "toBytes", desc := "(C)[B" } : Jvm.MethodName) jdk_43_method_46_code (1 : Nat) (Option.some (Jvm.ClassFile.FieldType.array Jvm.ClassFile.FieldType.byte))).before args0 about1 = true := code_word (m := ⟨8, 2⟩) (meth := k8m2) (c := k8c2) (by decide +kernel) rfl rfl rfl (by decide +kernel)
set_option maxRecDepth 65536 in
theorem w_c8 : (Jvm.Cond.code ({ cls := "java/lang/String", name := "<init>", desc := "([BB)V" } : Jvm.MethodName) jdk_42_method_151_code (3 : Nat) (Option.none : Option Jvm.ClassFile.FieldType)).before args0 about1 = true := code_word (m := ⟨7, 5⟩) (meth := k7m5) (c := k7c5) (by decide +kernel) rfl rfl rfl (by decide +kernel)
set_option maxRecDepth 65536 in
theorem w_c9 : (Jvm.Cond.code ({ cls := "com/example/delayed_task_dispatch/delayedtaskdispatch/model/Target", name := "callback", desc := "(Ljava/lang/String;)Lcom/example/delayed_task_dispatch/delayedtaskdispatch/model/Target;" } : Jvm.MethodName) prog_6_method_2_code (1 : Nat) (Option.some (Jvm.ClassFile.FieldType.object "com/example/delayed_task_dispatch/delayedtaskdispatch/model/Target"))).before args0 about1 = true := code_word (m := ⟨10, 1⟩) (meth := k10m1) (c := k10c1) (by decide +kernel) rfl rfl rfl (by decide +kernel)
set_option maxRecDepth 65536 in
theorem w_c10 : (Jvm.Cond.code ({ cls := "com/example/delayed_task_dispatch/delayedtaskdispatch/model/Target", name := "<init>", desc := "(Lcom/example/delayed_task_dispatch/delayedtaskdispatch/model/Target$Kind;Ljava/lang/String;)V" } : Jvm.MethodName) prog_6_method_1_code (3 : Nat) (Option.none : Option Jvm.ClassFile.FieldType)).before args0 about1 = true := code_word (m := ⟨10, 0⟩) (meth := k10m0) (c := k10c0) (by decide +kernel) rfl rfl rfl (by decide +kernel)
set_option maxRecDepth 65536 in
theorem w_c11 : (Jvm.Cond.code ({ cls := "java/lang/Record", name := "<init>", desc := "()V" } : Jvm.MethodName) jdk_30_method_1_code (1 : Nat) (Option.none : Option Jvm.ClassFile.FieldType)).before args0 about1 = true := code_word (m := ⟨9, 0⟩) (meth := k9m0) (c := k9c0) (by decide +kernel) rfl rfl rfl (by decide +kernel)
set_option maxRecDepth 65536 in
theorem w_c12 : (Jvm.Cond.code ({ cls := "com/example/delayed_task_dispatch/delayedtaskdispatch/model/Task", name := "pending", desc := "(Ljava/lang/String;JLjava/lang/Long;Lcom/example/delayed_task_dispatch/delayedtaskdispatch/model/Target;Ljava/lang/String;Ljava/lang/Integer;)Lcom/example/delayed_task_dispatch/delayedtaskdispatch/model/Task;" } : Jvm.MethodName) prog_8_method_2_code (7 : Nat) (Option.some (Jvm.ClassFile.FieldType.object "com/example/delayed_task_dispatch/delayedtaskdispatch/model/Task"))).before args0 about1 = true := code_word (m := ⟨13, 1⟩) (meth := k13m1) (c := k13c1) (by decide +kernel) rfl rfl rfl (by decide +kernel)
set_option maxRecDepth 65536 in
theorem w_c13 : (Jvm.Cond.code ({ cls := "com/example/delayed_task_dispatch/delayedtaskdispatch/model/Task", name := "<init>", desc := "(Ljava/lang/String;JLjava/lang/Long;Lcom/example/delayed_task_dispatch/delayedtaskdispatch/model/Target;Ljava/lang/String;Ljava/lang/Integer;Lcom/example/delayed_task_dispatch/delayedtaskdispatch/model/TaskState;ILjava/lang/String;)V" } : Jvm.MethodName) prog_8_method_1_code (11 : Nat) (Option.none : Option Jvm.ClassFile.FieldType)).before args0 about1 = true := code_word (m := ⟨13, 0⟩) (meth := k13m0) (c := k13c0) (by decide +kernel) rfl rfl rfl (by decide +kernel)
set_option maxRecDepth 65536 in
theorem w_c14 : (Jvm.Cond.code ({ cls := "com/example/delayed_task_dispatch/delayedtaskdispatch/model/Task", name := "id", desc := "()Ljava/lang/String;" } : Jvm.MethodName) prog_8_method_7_code (1 : Nat) (Option.some (Jvm.ClassFile.FieldType.object "java/lang/String"))).before args0 about1 = true := code_word (m := ⟨13, 2⟩) (meth := k13m2) (c := k13c2) (by decide +kernel) rfl rfl rfl (by decide +kernel)
set_option maxRecDepth 65536 in
theorem w_c15 : (Jvm.Cond.code ({ cls := "java/lang/String", name := "equals", desc := "(Ljava/lang/Object;)Z" } : Jvm.MethodName) jdk_42_method_66_code (3 : Nat) (Option.some Jvm.ClassFile.FieldType.boolean)).before args0 about1 = true := code_word (m := ⟨7, 2⟩) (meth := k7m2) (c := k7c2) (by decide +kernel) rfl rfl rfl (by decide +kernel)
set_option maxRecDepth 65536 in
theorem w_c16 : (Jvm.Cond.code ({ cls := "com/example/delayed_task_dispatch/delayedtaskdispatch/model/Task", name := "dueAt", desc := "()J" } : Jvm.MethodName) prog_8_method_8_code (1 : Nat) (Option.some Jvm.ClassFile.FieldType.long)).before args0 about1 = true := code_word (m := ⟨13, 3⟩) (meth := k13m3) (c := k13c3) (by decide +kernel) rfl rfl rfl (by decide +kernel)
set_option maxRecDepth 65536 in
theorem w_c17 : (Jvm.Cond.code ({ cls := "com/example/delayed_task_dispatch/delayedtaskdispatch/model/Task", name := "target", desc := "()Lcom/example/delayed_task_dispatch/delayedtaskdispatch/model/Target;" } : Jvm.MethodName) prog_8_method_10_code (1 : Nat) (Option.some (Jvm.ClassFile.FieldType.object "com/example/delayed_task_dispatch/delayedtaskdispatch/model/Target"))).before args0 about1 = true := code_word (m := ⟨13, 5⟩) (meth := k13m5) (c := k13c5) (by decide +kernel) rfl rfl rfl (by decide +kernel)
set_option maxRecDepth 65536 in
theorem w_c18 : (Jvm.Cond.code ({ cls := "com/example/delayed_task_dispatch/delayedtaskdispatch/model/Task", name := "state", desc := "()Lcom/example/delayed_task_dispatch/delayedtaskdispatch/model/TaskState;" } : Jvm.MethodName) prog_8_method_13_code (1 : Nat) (Option.some (Jvm.ClassFile.FieldType.object "com/example/delayed_task_dispatch/delayedtaskdispatch/model/TaskState"))).before args0 about1 = true := code_word (m := ⟨13, 8⟩) (meth := k13m8) (c := k13c8) (by decide +kernel) rfl rfl rfl (by decide +kernel)
set_option maxRecDepth 65536 in
theorem w_c19 : (Jvm.Cond.code ({ cls := "com/example/delayed_task_dispatch/delayedtaskdispatch/model/Task", name := "attempts", desc := "()I" } : Jvm.MethodName) prog_8_method_14_code (1 : Nat) (Option.some Jvm.ClassFile.FieldType.int)).before args0 about1 = true := code_word (m := ⟨13, 9⟩) (meth := k13m9) (c := k13c9) (by decide +kernel) rfl rfl rfl (by decide +kernel)
set_option maxRecDepth 65536 in
theorem w_c20 : (Jvm.Cond.code ({ cls := "com/example/delayed_task_dispatch/delayedtaskdispatch/model/Task", name := "lastError", desc := "()Ljava/lang/String;" } : Jvm.MethodName) prog_8_method_15_code (1 : Nat) (Option.some (Jvm.ClassFile.FieldType.object "java/lang/String"))).before args0 about1 = true := code_word (m := ⟨13, 10⟩) (meth := k13m10) (c := k13c10) (by decide +kernel) rfl rfl rfl (by decide +kernel)
set_option maxRecDepth 65536 in
theorem w_c21 : (Jvm.Cond.code ({ cls := "com/example/delayed_task_dispatch/delayedtaskdispatch/model/Task", name := "delayMs", desc := "()Ljava/lang/Long;" } : Jvm.MethodName) prog_8_method_9_code (1 : Nat) (Option.some (Jvm.ClassFile.FieldType.object "java/lang/Long"))).before args0 about1 = true := code_word (m := ⟨13, 4⟩) (meth := k13m4) (c := k13c4) (by decide +kernel) rfl rfl rfl (by decide +kernel)
set_option maxRecDepth 65536 in
theorem w_c22 : (Jvm.Cond.code ({ cls := "com/example/delayed_task_dispatch/delayedtaskdispatch/model/Task", name := "payload", desc := "()Ljava/lang/String;" } : Jvm.MethodName) prog_8_method_11_code (1 : Nat) (Option.some (Jvm.ClassFile.FieldType.object "java/lang/String"))).before args0 about1 = true := code_word (m := ⟨13, 6⟩) (meth := k13m6) (c := k13c6) (by decide +kernel) rfl rfl rfl (by decide +kernel)
set_option maxRecDepth 65536 in
theorem w_c23 : (Jvm.Cond.code ({ cls := "com/example/delayed_task_dispatch/delayedtaskdispatch/model/Task", name := "maxAttempts", desc := "()Ljava/lang/Integer;" } : Jvm.MethodName) prog_8_method_12_code (1 : Nat) (Option.some (Jvm.ClassFile.FieldType.object "java/lang/Integer"))).before args0 about1 = true := code_word (m := ⟨13, 7⟩) (meth := k13m7) (c := k13c7) (by decide +kernel) rfl rfl rfl (by decide +kernel)
set_option maxRecDepth 65536 in
theorem w_c24 : (Jvm.Cond.code ({ cls := "com/example/delayed_task_dispatch/delayedtaskdispatch/model/Target", name := "stream", desc := "(Ljava/lang/String;)Lcom/example/delayed_task_dispatch/delayedtaskdispatch/model/Target;" } : Jvm.MethodName) prog_6_method_3_code (1 : Nat) (Option.some (Jvm.ClassFile.FieldType.object "com/example/delayed_task_dispatch/delayedtaskdispatch/model/Target"))).before args0 about1 = true := code_word (m := ⟨10, 2⟩) (meth := k10m2) (c := k10c2) (by decide +kernel) rfl rfl rfl (by decide +kernel)
set_option maxRecDepth 65536 in
theorem w_c25 : (Jvm.Cond.code ({ cls := "java/lang/StringUTF16", name := "compress", desc := "([CII)[B" } : Jvm.MethodName) jdk_52_method_16_code (6 : Nat) (Option.some (Jvm.ClassFile.FieldType.array Jvm.ClassFile.FieldType.byte))).before args0 about1 = true := code_word (m := ⟨15, 2⟩) (meth := k15m2) (c := k15c2) (by decide +kernel) rfl rfl rfl (by decide +kernel)
set_option maxRecDepth 65536 in
theorem w_c26 : (Jvm.Cond.code ({ cls := "java/lang/StringUTF16", name := "compress", desc := "([CI[BII)I" } : Jvm.MethodName) jdk_52_method_21_code (7 : Nat) (Option.some Jvm.ClassFile.FieldType.int)).before args0 about1 = true := code_word (m := ⟨15, 3⟩) (meth := k15m3) (c := k15c3) (by decide +kernel) rfl rfl rfl (by decide +kernel)
set_option maxRecDepth 65536 in
theorem w_c27 : (Jvm.Cond.code ({ cls := "java/lang/StringUTF16", name := "coderFromArrayLen", desc := "([BI)B" } : Jvm.MethodName) jdk_52_method_15_code (2 : Nat) (Option.some Jvm.ClassFile.FieldType.byte)).before args0 about1 = true := code_word (m := ⟨15, 1⟩) (meth := k15m1) (c := k15c1) (by decide +kernel) rfl rfl rfl (by decide +kernel)
set_option maxRecDepth 65536 in
theorem w_c28 : (Jvm.Cond.code ({ cls := "java/lang/Long", name := "valueOf", desc := "(J)Ljava/lang/Long;" } : Jvm.MethodName) jdk_35_method_24_code (3 : Nat) (Option.some (Jvm.ClassFile.FieldType.object "java/lang/Long"))).before args0 about1 = true := code_word (m := ⟨17, 0⟩) (meth := k17m0) (c := k17c0) (by decide +kernel) rfl rfl rfl (by decide +kernel)
set_option maxRecDepth 65536 in
theorem w_c29 : (Jvm.Cond.code ({ cls := "java/lang/Long", name := "<init>", desc := "(J)V" } : Jvm.MethodName) jdk_35_method_26_code (3 : Nat) (Option.none : Option Jvm.ClassFile.FieldType)).before args0 about1 = true := code_word (m := ⟨17, 1⟩) (meth := k17m1) (c := k17c1) (by decide +kernel) rfl rfl rfl (by decide +kernel)
set_option maxRecDepth 65536 in
theorem w_c30 : (Jvm.Cond.code ({ cls := "java/lang/Number", name := "<init>", desc := "()V" } : Jvm.MethodName) jdk_18_method_1_code (1 : Nat) (Option.none : Option Jvm.ClassFile.FieldType)).before args0 about1 = true := code_word (m := ⟨16, 0⟩) (meth := k16m0) (c := k16c0) (by decide +kernel) rfl rfl rfl (by decide +kernel)
set_option maxRecDepth 65536 in
theorem w_c31 : (Jvm.Cond.code ({ cls := "java/lang/Integer", name := "valueOf", desc := "(I)Ljava/lang/Integer;" } : Jvm.MethodName) jdk_33_method_22_code (1 : Nat) (Option.some (Jvm.ClassFile.FieldType.object "java/lang/Integer"))).before args0 about1 = true := code_word (m := ⟨18, 0⟩) (meth := k18m0) (c := k18c0) (by decide +kernel) rfl rfl rfl (by decide +kernel)
set_option maxRecDepth 65536 in
theorem w_c32 : (Jvm.Cond.code ({ cls := "java/lang/Long", name := "longValue", desc := "()J" } : Jvm.MethodName) jdk_35_method_31_code (1 : Nat) (Option.some Jvm.ClassFile.FieldType.long)).before args0 about1 = true := code_word (m := ⟨17, 2⟩) (meth := k17m2) (c := k17c2) (by decide +kernel) rfl rfl rfl (by decide +kernel)
set_option maxRecDepth 65536 in
theorem w_c33 : (Jvm.Cond.code ({ cls := "java/lang/Integer", name := "intValue", desc := "()I" } : Jvm.MethodName) jdk_33_method_27_code (1 : Nat) (Option.some Jvm.ClassFile.FieldType.int)).before args0 about1 = true := code_word (m := ⟨18, 1⟩) (meth := k18m1) (c := k18c1) (by decide +kernel) rfl rfl rfl (by decide +kernel)
def codes1 : List Jvm.Cond := [Jvm.Cond.code x code maxLocals ret, Jvm.Cond.code ({ cls := "com/example/delayed_task_dispatch/delayedtaskdispatch/model/TaskPendingPinLaw", name := "draw", desc := "(II)Ljava/lang/String;" } : Jvm.MethodName) method_2_code (4 : Nat) (Option.some (Jvm.ClassFile.FieldType.object "java/lang/String")), Jvm.Cond.code ({ cls := "java/lang/String", name := "<init>", desc := "([C)V" } : Jvm.MethodName) jdk_42_method_3_code (2 : Nat) (Option.none : Option Jvm.ClassFile.FieldType), Jvm.Cond.code ({ cls := "java/lang/String", name := "<init>", desc := "([CIILjava/lang/Void;)V" } : Jvm.MethodName) jdk_42_method_149_code (6 : Nat) (Option.none : Option Jvm.ClassFile.FieldType), Jvm.Cond.code ({ cls := "java/lang/Object", name := "<init>", desc := "()V" } : Jvm.MethodName) object_method_1_code (1 : Nat) (Option.none : Option Jvm.ClassFile.FieldType), Jvm.Cond.code ({ cls := "java/lang/String", name := "valueOf", desc := "(C)Ljava/lang/String;" } : Jvm.MethodName) jdk_42_method_139_code (1 : Nat) (Option.some (Jvm.ClassFile.FieldType.object "java/lang/String")), Jvm.Cond.code ({ cls := "java/lang/StringLatin1", name := "canEncode", desc := "(C)Z" } : Jvm.MethodName) jdk_43_method_3_code (1 : Nat) (Option.some Jvm.ClassFile.FieldType.boolean), Jvm.Cond.code ({ cls := "java/lang/StringLatin1", name := "toBytes", desc := "(C)[B" } : Jvm.MethodName) jdk_43_method_46_code (1 : Nat) (Option.some (Jvm.ClassFile.FieldType.array Jvm.ClassFile.FieldType.byte)), Jvm.Cond.code ({ cls := "java/lang/String", name := "<init>", desc := "([BB)V" } : Jvm.MethodName) jdk_42_method_151_code (3 : Nat) (Option.none : Option Jvm.ClassFile.FieldType), Jvm.Cond.code ({ cls := "com/example/delayed_task_dispatch/delayedtaskdispatch/model/Target", name := "callback", desc := "(Ljava/lang/String;)Lcom/example/delayed_task_dispatch/delayedtaskdispatch/model/Target;" } : Jvm.MethodName) prog_6_method_2_code (1 : Nat) (Option.some (Jvm.ClassFile.FieldType.object "com/example/delayed_task_dispatch/delayedtaskdispatch/model/Target")), Jvm.Cond.code ({ cls := "com/example/delayed_task_dispatch/delayedtaskdispatch/model/Target", name := "<init>", desc := "(Lcom/example/delayed_task_dispatch/delayedtaskdispatch/model/Target$Kind;Ljava/lang/String;)V" } : Jvm.MethodName) prog_6_method_1_code (3 : Nat) (Option.none : Option Jvm.ClassFile.FieldType), Jvm.Cond.code ({ cls := "java/lang/Record", name := "<init>", desc := "()V" } : Jvm.MethodName) jdk_30_method_1_code (1 : Nat) (Option.none : Option Jvm.ClassFile.FieldType), Jvm.Cond.code ({ cls := "com/example/delayed_task_dispatch/delayedtaskdispatch/model/Task", name := "pending", desc := "(Ljava/lang/String;JLjava/lang/Long;Lcom/example/delayed_task_dispatch/delayedtaskdispatch/model/Target;Ljava/lang/String;Ljava/lang/Integer;)Lcom/example/delayed_task_dispatch/delayedtaskdispatch/model/Task;" } : Jvm.MethodName) prog_8_method_2_code (7 : Nat) (Option.some (Jvm.ClassFile.FieldType.object "com/example/delayed_task_dispatch/delayedtaskdispatch/model/Task")), Jvm.Cond.code ({ cls := "com/example/delayed_task_dispatch/delayedtaskdispatch/model/Task", name := "<init>", desc := "(Ljava/lang/String;JLjava/lang/Long;Lcom/example/delayed_task_dispatch/delayedtaskdispatch/model/Target;Ljava/lang/String;Ljava/lang/Integer;Lcom/example/delayed_task_dispatch/delayedtaskdispatch/model/TaskState;ILjava/lang/String;)V" } : Jvm.MethodName) prog_8_method_1_code (11 : Nat) (Option.none : Option Jvm.ClassFile.FieldType), Jvm.Cond.code ({ cls := "com/example/delayed_task_dispatch/delayedtaskdispatch/model/Task", name := "id", desc := "()Ljava/lang/String;" } : Jvm.MethodName) prog_8_method_7_code (1 : Nat) (Option.some (Jvm.ClassFile.FieldType.object "java/lang/String")), Jvm.Cond.code ({ cls := "java/lang/String", name := "equals", desc := "(Ljava/lang/Object;)Z" } : Jvm.MethodName) jdk_42_method_66_code (3 : Nat) (Option.some Jvm.ClassFile.FieldType.boolean), Jvm.Cond.code ({ cls := "com/example/delayed_task_dispatch/delayedtaskdispatch/model/Task", name := "dueAt", desc := "()J" } : Jvm.MethodName) prog_8_method_8_code (1 : Nat) (Option.some Jvm.ClassFile.FieldType.long), Jvm.Cond.code ({ cls := "com/example/delayed_task_dispatch/delayedtaskdispatch/model/Task", name := "target", desc := "()Lcom/example/delayed_task_dispatch/delayedtaskdispatch/model/Target;" } : Jvm.MethodName) prog_8_method_10_code (1 : Nat) (Option.some (Jvm.ClassFile.FieldType.object "com/example/delayed_task_dispatch/delayedtaskdispatch/model/Target")), Jvm.Cond.code ({ cls := "com/example/delayed_task_dispatch/delayedtaskdispatch/model/Task", name := "state", desc := "()Lcom/example/delayed_task_dispatch/delayedtaskdispatch/model/TaskState;" } : Jvm.MethodName) prog_8_method_13_code (1 : Nat) (Option.some (Jvm.ClassFile.FieldType.object "com/example/delayed_task_dispatch/delayedtaskdispatch/model/TaskState")), Jvm.Cond.code ({ cls := "com/example/delayed_task_dispatch/delayedtaskdispatch/model/Task", name := "attempts", desc := "()I" } : Jvm.MethodName) prog_8_method_14_code (1 : Nat) (Option.some Jvm.ClassFile.FieldType.int), Jvm.Cond.code ({ cls := "com/example/delayed_task_dispatch/delayedtaskdispatch/model/Task", name := "lastError", desc := "()Ljava/lang/String;" } : Jvm.MethodName) prog_8_method_15_code (1 : Nat) (Option.some (Jvm.ClassFile.FieldType.object "java/lang/String")), Jvm.Cond.code ({ cls := "com/example/delayed_task_dispatch/delayedtaskdispatch/model/Task", name := "delayMs", desc := "()Ljava/lang/Long;" } : Jvm.MethodName) prog_8_method_9_code (1 : Nat) (Option.some (Jvm.ClassFile.FieldType.object "java/lang/Long")), Jvm.Cond.code ({ cls := "com/example/delayed_task_dispatch/delayedtaskdispatch/model/Task", name := "payload", desc := "()Ljava/lang/String;" } : Jvm.MethodName) prog_8_method_11_code (1 : Nat) (Option.some (Jvm.ClassFile.FieldType.object "java/lang/String")), Jvm.Cond.code ({ cls := "com/example/delayed_task_dispatch/delayedtaskdispatch/model/Task", name := "maxAttempts", desc := "()Ljava/lang/Integer;" } : Jvm.MethodName) prog_8_method_12_code (1 : Nat) (Option.some (Jvm.ClassFile.FieldType.object "java/lang/Integer")), Jvm.Cond.code ({ cls := "com/example/delayed_task_dispatch/delayedtaskdispatch/model/Target", name := "stream", desc := "(Ljava/lang/String;)Lcom/example/delayed_task_dispatch/delayedtaskdispatch/model/Target;" } : Jvm.MethodName) prog_6_method_3_code (1 : Nat) (Option.some (Jvm.ClassFile.FieldType.object "com/example/delayed_task_dispatch/delayedtaskdispatch/model/Target")), Jvm.Cond.code ({ cls := "java/lang/StringUTF16", name := "compress", desc := "([CII)[B" } : Jvm.MethodName) jdk_52_method_16_code (6 : Nat) (Option.some (Jvm.ClassFile.FieldType.array Jvm.ClassFile.FieldType.byte)), Jvm.Cond.code ({ cls := "java/lang/StringUTF16", name := "compress", desc := "([CI[BII)I" } : Jvm.MethodName) jdk_52_method_21_code (7 : Nat) (Option.some Jvm.ClassFile.FieldType.int), Jvm.Cond.code ({ cls := "java/lang/StringUTF16", name := "coderFromArrayLen", desc := "([BI)B" } : Jvm.MethodName) jdk_52_method_15_code (2 : Nat) (Option.some Jvm.ClassFile.FieldType.byte), Jvm.Cond.code ({ cls := "java/lang/Long", name := "valueOf", desc := "(J)Ljava/lang/Long;" } : Jvm.MethodName) jdk_35_method_24_code (3 : Nat) (Option.some (Jvm.ClassFile.FieldType.object "java/lang/Long")), Jvm.Cond.code ({ cls := "java/lang/Long", name := "<init>", desc := "(J)V" } : Jvm.MethodName) jdk_35_method_26_code (3 : Nat) (Option.none : Option Jvm.ClassFile.FieldType), Jvm.Cond.code ({ cls := "java/lang/Number", name := "<init>", desc := "()V" } : Jvm.MethodName) jdk_18_method_1_code (1 : Nat) (Option.none : Option Jvm.ClassFile.FieldType), Jvm.Cond.code ({ cls := "java/lang/Integer", name := "valueOf", desc := "(I)Ljava/lang/Integer;" } : Jvm.MethodName) jdk_33_method_22_code (1 : Nat) (Option.some (Jvm.ClassFile.FieldType.object "java/lang/Integer")), Jvm.Cond.code ({ cls := "java/lang/Long", name := "longValue", desc := "()J" } : Jvm.MethodName) jdk_35_method_31_code (1 : Nat) (Option.some Jvm.ClassFile.FieldType.long), Jvm.Cond.code ({ cls := "java/lang/Integer", name := "intValue", desc := "()I" } : Jvm.MethodName) jdk_33_method_27_code (1 : Nat) (Option.some Jvm.ClassFile.FieldType.int)]
set_option maxRecDepth 65536 in
theorem codes_eq : words1.filter isCode = codes1 := rfl
theorem w_codes : ∀ c ∈ words1.filter isCode, c.before args0 about1 = true := by
  rw [codes_eq]
  intro c hc
  simp only [codes1, List.mem_cons, List.not_mem_nil, or_false] at hc
  rcases hc with rfl | rfl | rfl | rfl | rfl | rfl | rfl | rfl | rfl | rfl | rfl | rfl | rfl | rfl | rfl | rfl | rfl | rfl | rfl | rfl | rfl | rfl | rfl | rfl | rfl | rfl | rfl | rfl | rfl | rfl | rfl | rfl | rfl | rfl
  · exact w_c0
  · exact w_c1
  · exact w_c2
  · exact w_c3
  · exact w_c4
  · exact w_c5
  · exact w_c6
  · exact w_c7
  · exact w_c8
  · exact w_c9
  · exact w_c10
  · exact w_c11
  · exact w_c12
  · exact w_c13
  · exact w_c14
  · exact w_c15
  · exact w_c16
  · exact w_c17
  · exact w_c18
  · exact w_c19
  · exact w_c20
  · exact w_c21
  · exact w_c22
  · exact w_c23
  · exact w_c24
  · exact w_c25
  · exact w_c26
  · exact w_c27
  · exact w_c28
  · exact w_c29
  · exact w_c30
  · exact w_c31
  · exact w_c32
  · exact w_c33
set_option maxRecDepth 65536 in
theorem w_t1 : (words1.take 24).all (fun c => isCode c || c.before args0 about1) = true := by decide +kernel
set_option maxRecDepth 65536 in
theorem w_t2 : ((words1.drop 24).take 24).all (fun c => isCode c || c.before args0 about1) = true := by decide +kernel
set_option maxRecDepth 65536 in
theorem w_t3 : (((words1.drop 24).drop 24).take 24).all (fun c => isCode c || c.before args0 about1) = true := by decide +kernel
set_option maxRecDepth 65536 in
theorem w_t4 : ((((words1.drop 24).drop 24).drop 24).take 24).all (fun c => isCode c || c.before args0 about1) = true := by decide +kernel
set_option maxRecDepth 65536 in
theorem w_t5 : (((((words1.drop 24).drop 24).drop 24).drop 24).take 24).all (fun c => isCode c || c.before args0 about1) = true := by decide +kernel
set_option maxRecDepth 65536 in
theorem w_t6 : ((((((words1.drop 24).drop 24).drop 24).drop 24).drop 24).take 24).all (fun c => isCode c || c.before args0 about1) = true := by decide +kernel
set_option maxRecDepth 65536 in
theorem w_t7 : (((((((words1.drop 24).drop 24).drop 24).drop 24).drop 24).drop 24).take 24).all (fun c => isCode c || c.before args0 about1) = true := by decide +kernel
set_option maxRecDepth 65536 in
theorem w_t8 : ((((((((words1.drop 24).drop 24).drop 24).drop 24).drop 24).drop 24).drop 24).take 24).all (fun c => isCode c || c.before args0 about1) = true := by decide +kernel
set_option maxRecDepth 65536 in
theorem w_t9 : ((((((((words1.drop 24).drop 24).drop 24).drop 24).drop 24).drop 24).drop 24).drop 24).all (fun c => isCode c || c.before args0 about1) = true := by decide +kernel
theorem w_tables : (allAtoms (Jvm.Cond.code x code maxLocals ret :: tables_1)).before args0 about1 = true := by
  rw [allAtoms_all]
  show words1.all (fun c => c.before args0 about1) = true
  refine all_split ?_ w_codes
  rw [← List.take_append_drop 24 words1, List.all_append, w_t1, ← List.take_append_drop 24 (words1.drop 24), List.all_append, w_t2, ← List.take_append_drop 24 ((words1.drop 24).drop 24), List.all_append, w_t3, ← List.take_append_drop 24 (((words1.drop 24).drop 24).drop 24), List.all_append, w_t4, ← List.take_append_drop 24 ((((words1.drop 24).drop 24).drop 24).drop 24), List.all_append, w_t5, ← List.take_append_drop 24 (((((words1.drop 24).drop 24).drop 24).drop 24).drop 24), List.all_append, w_t6, ← List.take_append_drop 24 ((((((words1.drop 24).drop 24).drop 24).drop 24).drop 24).drop 24), List.all_append, w_t7, ← List.take_append_drop 24 (((((((words1.drop 24).drop 24).drop 24).drop 24).drop 24).drop 24).drop 24), List.all_append, w_t8, w_t9]
  rfl
set_option maxRecDepth 65536 in
theorem w_rest : rest_1_c.before args0 about1 = true := by decide +kernel
set_option maxRecDepth 65536 in
theorem w_case : (Jvm.Cond.and given_1 narrow_1).before args0 about1 = true := by decide +kernel
set_option maxRecDepth 65536 in
theorem w_consts : constsHeld consts_1 about1 := Jvm.Lit.constsHeldB_iff.mp (by decide +kernel)
theorem w_applies : (headSpec (Jvm.Cond.code x code maxLocals ret :: tables_1) room_1).applies x e0.platform about1 = true :=
  (Spec.applies_iff w_frames).mpr ⟨w_running, w_runnable, w_alone, w_named, w_hears, w_ripe, w_room, w_tables⟩
theorem atStart : AtStart classFile x code maxLocals ret World_1 tables_1 room_1 Calls_1 rest_1 Pre_1 launch0 p0 e0 about1 theMethod args0 below0 :=
  ⟨lists_1, trivial, launch0.admits_env _ _ _, launch0.least_env, fairChoices_fair.cas, fairChoices_fair.clock, w_frames, w_args, w_heap, w_applies, ⟨w_consts, trivial⟩, w_rest, w_case⟩
end start1
theorem witness_1 : WitnessClaimed_1 := ⟨start1.p0, start1.e0, start1.about1, start1.theMethod, start1.args0, start1.below0, start1.atStart⟩
end Jvm.Pilot.@@N@@
