import JvmDerived
import JvmDerived.Pilot.@@N@@Statement
import JvmDerived.Pilot.@@N@@Code
set_option linter.unusedVariables false
set_option linter.unusedSimpArgs false
namespace Jvm.Pilot.@@N@@
namespace Own
open Jvm Jvm.ClassFile Sem Op Lib Jvm.Free Jvm.Stand Jvm.LawKit Jvm.RoadKit Bundle
/-! A small logic of walks over the library's Stand: WP says that the run from a frame returns well; one rule an instruction; a callee by Con. -/
abbrev Ctx : Type := Program × Env × Room × State × MethodId × Array Value × List Frame × Method × Code
abbrev Ctx.p (K : Ctx) : Program := K.1
abbrev Ctx.e (K : Ctx) : Env := K.2.1
abbrev Ctx.R (K : Ctx) : Room := K.2.2.1
abbrev Ctx.s (K : Ctx) : State := K.2.2.2.1
abbrev Ctx.m (K : Ctx) : MethodId := K.2.2.2.2.1
abbrev Ctx.args (K : Ctx) : Array Value := K.2.2.2.2.2.1
abbrev Ctx.below (K : Ctx) : List Frame := K.2.2.2.2.2.2.1
abbrev Ctx.meth (K : Ctx) : Method := K.2.2.2.2.2.2.2.1
abbrev Ctx.c (K : Ctx) : Code := K.2.2.2.2.2.2.2.2
/-- warmer by links alone -/
def Wm (vm vm1 : Vm) : Prop := ∀ s : State, s.vm = vm → s.WarmedH vm1
theorem Wm.refl (vm : Vm) : Wm vm vm := fun s e => by subst e; exact State.WarmedH.refl s
theorem Wm.of {s0 : State} {vm1 : Vm} (h : s0.WarmedH vm1) : Wm s0.vm vm1 := fun s e => by
  have q : s.WarmedH s0.vm := by rw [← e]; exact State.WarmedH.refl s
  exact State.WarmedH.trans q h
theorem Wm.trans {vm vm1 vm2 : Vm} (A : Wm vm vm1) (B : Wm vm1 vm2) : Wm vm vm2 := fun s e => State.WarmedH.trans (t := s.setVm vm1) (A s e) (B (s.setVm vm1) rfl)
/-- RoadKit's CHr; it: whether the walk may intern -/
def CHx (it : Prop) (Z : State) (EL : List (String × Nat)) (vm : Vm) (h : Heap) (vm1 : Vm) (h' : Heap) : Prop := CHv Z EL vm1 h' ∧ h.size ≤ h'.size ∧ (∀ y, Bk Z EL vm1 h' y → Bk Z EL vm h y ∨ (it ∧ h.size ≤ y)) ∧ (it ∨ Wm vm vm1)
section CHxs
variable {it it' : Prop} {Z : State} {EL : List (String × Nat)} {vm vm1 vm2 : Vm} {h h' h2 : Heap}
theorem CHx.refl (H : CHv Z EL vm h) : CHx it Z EL vm h vm h := ⟨H, Nat.le_refl _, fun _ q => Or.inl q, Or.inr (Wm.refl _)⟩
theorem CHx.trans (A : CHx it Z EL vm h vm1 h') (B : CHx it Z EL vm1 h' vm2 h2) : CHx it Z EL vm h vm2 h2 := ⟨B.1, Nat.le_trans A.2.1 B.2.1, fun y q => by
  rcases B.2.2.1 y q with q | q
  · exact A.2.2.1 y q
  · exact Or.inr ⟨q.1, Nat.le_trans A.2.1 q.2⟩, A.2.2.2.elim Or.inl fun a => B.2.2.2.imp id fun b => a.trans b⟩
theorem CHx.safe (A : CHx it Z EL vm h vm1 h') {x : Addr} (hx : x < h.size) (S : Safe Z EL vm h x) : Safe Z EL vm1 h' x := fun B => by
  rcases A.2.2.1 x B with q | q
  · exact S q
  · exact absurd hx (Nat.not_lt.mpr q.2)
theorem CHx.ext (E : Ext h h') (H : CHv Z EL vm h) : CHx it Z EL vm h vm h' := ⟨H.ext E, E.1, fun y q => Or.inl ((H.step fun _ _ _ q => E.2 _ _ q).2 y q), Or.inr (Wm.refl _)⟩
theorem CHx.wr {a : Addr} {sl : Nat} {v : Value} (W : Wr h h' a sl v) (S : Safe Z EL vm h a) (H : CHv Z EL vm h) : CHx it Z EL vm h vm h' := ⟨H.wr W S, Nat.le_of_eq W.size.symm, fun y q => Or.inl ((H.wrStep W S).2 y q), Or.inr (Wm.refl _)⟩
theorem CHx.mono (hi : it' → it) (A : CHx it' Z EL vm h vm1 h') : CHx it Z EL vm h vm1 h' := ⟨A.1, A.2.1, fun y q => (A.2.2.1 y q).imp id fun z => ⟨hi z.1, z.2⟩, A.2.2.2.imp hi id⟩
theorem CHx.of (hi : it) (A : CHr Z EL vm h vm1 h') : CHx it Z EL vm h vm1 h' := ⟨A.1, A.2.1, fun y q => (A.2.2 y q).imp id fun z => ⟨hi, z⟩, Or.inl hi⟩
/-- over the same heap nothing new is booked -/
theorem CHx.still (A : CHr Z EL vm h vm1 h) (w : Wm vm vm1) : CHx it Z EL vm h vm1 h := ⟨A.1, A.2.1, fun y q => Or.inl ((A.2.2 y q).elim id fun z => by
  obtain ⟨c, hc⟩ := q.there
  exact absurd (Array.getElem?_eq_some_iff.mp hc).1 (Nat.not_lt.mpr z)), Or.inr w⟩
end CHxs
/-- addresses that may be written: new since the law's start, no constant's cell -/
def Owned (Z : State) (EL : List (String × Nat)) (it : Prop) (n0 : Nat) (h0 : Heap) (ws0 : List Addr) (vm : Vm) (h : Heap) (ws : List Addr) : Prop :=
  ∀ x ∈ ws, n0 ≤ x ∧ x < h.size ∧ Safe Z EL vm h x ∧ (x ∈ ws0 ∨ h0.size ≤ x)
def Pos (l : Launch) (Z : State) (EL : List (String × Nat)) (it : Prop) (n0 : Nat) (own : String) (h0 : Heap) (ws0 : List Addr) (K : Ctx) (h : Heap) (ws : List Addr) (cells slots : Nat) (vm : Vm) (T : State) (locs : List Loc) : Prop :=
  Stand K.p l K.e K.R (K.s.setVm vm) K.m K.args K.below K.meth K.c T locs cells slots ∧ T.heap = h ∧ (∃ k, K.s.Since vm k ∧ k ≤ h.size) ∧ Z.Warmed39 vm ∧ vm.findClass own = some K.m.cls ∧
  CHx it Z EL K.s.vm h0 vm h ∧ Fr n0 locs ∧ Keep h0 h ws0 ∧ Old Z n0 h ∧ Owned Z EL it n0 h0 ws0 vm h ws
def Fine (Z : State) (EL : List (String × Nat)) (it : Prop) (n0 : Nat) (h0 : Heap) (ws0 : List Addr) (Q : Option Value → Heap → Prop) (cl sl : Nat) (s : State) (o : Outcome) (t : State) : Prop :=
  ∃ v L, o = .returned v ∧ (Q v t.heap ∧ Keep h0 t.heap ws0 ∧ Fr n0 L) ∧ CHx it Z EL s.vm h0 t.vm t.heap ∧ ReturnedEndW s o t L cl sl
def Goes (Z : State) (EL : List (String × Nat)) (it : Prop) (n0 : Nat) (h0 : Heap) (ws0 : List Addr) (Q : Option Value → Heap → Prop) (K : Ctx) (S : State) : Prop :=
  ∃ s₂ o, Steps K.p.tables K.e K.below S s₂ ∧ s₂.status = .running ∧ Ended s₂ K.below o ∧ Fine Z EL it n0 h0 ws0 Q K.R.cells K.R.slots K.s o s₂
def WP (l : Launch) (Z : State) (EL : List (String × Nat)) (it : Prop) (n0 : Nat) (own : String) (h0 : Heap) (ws0 : List Addr) (Q : Option Value → Heap → Prop) (K : Ctx) (h : Heap) (ws : List Addr) (cells slots : Nat) (g : JFrame) : Prop :=
  ∀ (vm : Vm) (T : State) (locs : List Loc), Pos l Z EL it n0 own h0 ws0 K h ws cells slots vm T locs → Goes Z EL it n0 h0 ws0 Q K (T.setTop g)
/-- what the walk knows of its own method -/
def Ok (l : Launch) (Z : State) (a0 : Array Value) (EL : List (String × Nat)) (it : Prop) (n0 : Nat) (own : String) (h0 : Heap) (ws0 : List Addr) (Q : Option Value → Heap → Prop) (code : ByteArray) (maxL : Nat) (ret : Option FieldType) (nm : String) (rm : Room) (K : Ctx) : Prop :=
  K.p.tables.exec = Jvm.exec ∧ EW Z a0 EL ∧ K.c.code = code ∧ K.c.maxLocals = maxL ∧ K.meth.sig.returnType = ret ∧ K.meth.name = nm ∧ K.meth.locks = false ∧ K.R = rm
/-- a method's law, as its body gives it -/
def Met (l : Launch) (Z : State) (EL : List (String × Nat)) (it : Prop) (n0 : Nat) (y : MethodName) (bytes : ByteArray) (maxL : Nat) (ret : Option FieldType) (rm : Room) (cs : List Jvm.Cond) (as : Array Value) (h : Heap) (ws : List Addr) (Q : Option Value → Heap → Prop) : Prop :=
  MetFree l y (head1 (Jvm.Cond.code y bytes maxL ret :: cs) rm) (fun a U => a = as ∧ Z.Warmed39 U.vm ∧ U.heap = h ∧ CHv Z EL U.vm h ∧ Old Z n0 h ∧ ∀ x ∈ ws, n0 ≤ x ∧ x < h.size ∧ Safe Z EL U.vm h x) (fun _ _ _ _ _ => True)
    (fun _ U o U' => Fine Z EL it n0 h ws Q rm.cells rm.slots U o U')
/-- a method's law, as a caller takes it -/
def Con (l : Launch) (Z : State) (a0 : Array Value) (EL : List (String × Nat)) (it : Prop) (n0 : Nat) (y : MethodName) (fr lo cl sl : Nat) (as : Array Value) (h : Heap) (ws : List Addr) (Q : Option Value → Heap → Prop) : Prop :=
  ∀ (R : Room) (p : Program) (e : Env) (below : List Frame) (s : State) (args : Array Value) (len W : Nat) (vm0 : Vm), Z.Warmed39 vm0 → EW Z a0 EL → CHv Z EL vm0 h → Old Z n0 h → (∀ x ∈ ws, n0 ≤ x ∧ x < h.size ∧ Safe Z EL vm0 h x) → fr ≤ R.frames → W + lo ≤ R.locals →
    BackS l R p e below (s.setVm vm0) args y len W (fun A a => a = as ∧ A.U.heap = h ∧ A.cells + cl ≤ R.cells ∧ A.slots + sl ≤ R.slots)
      (fun A _ v B => ∃ L, (Q v B.U.heap ∧ Keep h B.U.heap ws ∧ Fr n0 L) ∧ B.locs = A.locs ++ L ∧ B.cells = A.cells + cl ∧ B.slots = A.slots + sl ∧ CHx it Z EL vm0 h B.U.vm B.U.heap)
section Rules
variable {l : Launch} {Z : State} {a0 : Array Value} {EL : List (String × Nat)} {it : Prop} {n0 : Nat} {own : String} {h0 : Heap} {ws0 : List Addr} {Q : Option Value → Heap → Prop} {code : ByteArray} {maxL : Nat} {ret : Option FieldType} {nm : String} {rm : Room} {K : Ctx} {h : Heap} {ws : List Addr} {cells slots pc : Nat} {Ls : Array Slot} {st : List Value} {g g' : JFrame}
theorem Goes.of {S S' : State} (f : ∀ t, Steps K.p.tables K.e K.below S' t → Steps K.p.tables K.e K.below S t) (k : Goes Z EL it n0 h0 ws0 Q K S') : Goes Z EL it n0 h0 ws0 Q K S := by
  obtain ⟨s₂, o, h1, h2⟩ := k
  exact ⟨s₂, o, f _ h1, h2⟩
abbrev Ok.W (C : Ok l Z a0 EL it n0 own h0 ws0 Q code maxL ret nm rm K) (h : Heap) (ws : List Addr) (cells slots : Nat) (g : JFrame) : Prop := WP l Z EL it n0 own h0 ws0 Q K h ws cells slots g
theorem Ok.exec (C : Ok l Z a0 EL it n0 own h0 ws0 Q code maxL ret nm rm K) : K.p.tables.exec = Jvm.exec := C.1
theorem Ok.ew (C : Ok l Z a0 EL it n0 own h0 ws0 Q code maxL ret nm rm K) : EW Z a0 EL := C.2.1
theorem Ok.bytes (C : Ok l Z a0 EL it n0 own h0 ws0 Q code maxL ret nm rm K) : K.c.code = code := C.2.2.1
theorem Ok.maxl (C : Ok l Z a0 EL it n0 own h0 ws0 Q code maxL ret nm rm K) : K.c.maxLocals = maxL := C.2.2.2.1
theorem Ok.rets (C : Ok l Z a0 EL it n0 own h0 ws0 Q code maxL ret nm rm K) : K.meth.sig.returnType = ret := C.2.2.2.2.1
theorem Ok.named (C : Ok l Z a0 EL it n0 own h0 ws0 Q code maxL ret nm rm K) : K.meth.name = nm := C.2.2.2.2.2.1
theorem Ok.unlocked (C : Ok l Z a0 EL it n0 own h0 ws0 Q code maxL ret nm rm K) : K.meth.locks = false := C.2.2.2.2.2.2.1
theorem Ok.room (C : Ok l Z a0 EL it n0 own h0 ws0 Q code maxL ret nm rm K) : K.R = rm := C.2.2.2.2.2.2.2
theorem WP.step (f : ∀ vm T locs, Pos l Z EL it n0 own h0 ws0 K h ws cells slots vm T locs → ∀ t, Steps K.p.tables K.e K.below (T.setTop g') t → Steps K.p.tables K.e K.below (T.setTop g) t) (r : WP l Z EL it n0 own h0 ws0 Q K h ws cells slots g') : WP l Z EL it n0 own h0 ws0 Q K h ws cells slots g :=
  fun vm T locs P => Goes.of (f vm T locs P) (r vm T locs P)
/-- what a walk may lean on, wherever it stands -/
theorem Ok.know (C : Ok l Z a0 EL it n0 own h0 ws0 Q code maxL ret nm rm K) (r : n0 ≤ h.size → Keep h0 h ws0 → Old Z n0 h → (∀ x ∈ ws, n0 ≤ x ∧ x < h.size) → WP l Z EL it n0 own h0 ws0 Q K h ws cells slots g) : WP l Z EL it n0 own h0 ws0 Q K h ws cells slots g :=
  fun vm T locs P => r (P.2.2.2.2.2.2.2.2.1.1 ▸ P.2.2.2.2.2.2.2.2.1.2.1) P.2.2.2.2.2.2.2.1 P.2.2.2.2.2.2.2.2.1 (fun x hx => ⟨(P.2.2.2.2.2.2.2.2.2 x hx).1, (P.2.2.2.2.2.2.2.2.2 x hx).2.1⟩) vm T locs P
theorem Pos.ext {vm : Vm} {T T' : State} {locs : List Loc} {h' : Heap} {cells' slots' : Nat} (P : Pos l Z EL it n0 own h0 ws0 K h ws cells slots vm T locs) (X : Stand K.p l K.e K.R (K.s.setVm vm) K.m K.args K.below K.meth K.c T' locs cells' slots') (e : T'.heap = h') (E : Ext h h') :
    Pos l Z EL it n0 own h0 ws0 K h' ws cells' slots' vm T' locs := by
  obtain ⟨-, -, ⟨k, hS, hk⟩, hZ, hown, H, N, Kp, O, Ow⟩ := P
  exact ⟨X, e, ⟨k, hS, Nat.le_trans hk E.1⟩, hZ, hown, H.trans (CHx.ext E H.1), N, Kp.ext E, O.ext E, fun x hx => ⟨(Ow x hx).1, Nat.lt_of_lt_of_le (Ow x hx).2.1 E.1, (Ow x hx).2.2.1.ext E H.1, (Ow x hx).2.2.2⟩⟩
theorem Pos.new {vm : Vm} {T T' : State} {locs : List Loc} {h' : Heap} {cells' slots' : Nat} (P : Pos l Z EL it n0 own h0 ws0 K h ws cells slots vm T locs) (X : Stand K.p l K.e K.R (K.s.setVm vm) K.m K.args K.below K.meth K.c T' locs cells' slots') (e : T'.heap = h') (E : Ext h h') (hl : h.size < h'.size) :
    Pos l Z EL it n0 own h0 ws0 K h' (h.size :: ws) cells' slots' vm T' locs := by
  have P' := P.ext X e E
  obtain ⟨-, -, -, -, -, H, -, Kp, O, -⟩ := P
  refine ⟨P'.1, P'.2.1, P'.2.2.1, P'.2.2.2.1, P'.2.2.2.2.1, P'.2.2.2.2.2.1, P'.2.2.2.2.2.2.1, P'.2.2.2.2.2.2.2.1, P'.2.2.2.2.2.2.2.2.1, fun x hx => ?_⟩
  rcases List.mem_cons.mp hx with rfl | hx
  · exact ⟨O.1 ▸ O.2.1, hl, (Safe.new (Nat.le_refl _)).ext E H.1, Or.inr Kp.1⟩
  · exact P'.2.2.2.2.2.2.2.2.2 x hx
theorem Pos.wr {vm : Vm} {T T' : State} {locs : List Loc} {h' : Heap} {a : Nat} {sl : Nat} {v : Value} (P : Pos l Z EL it n0 own h0 ws0 K h ws cells slots vm T locs) (ha : a ∈ ws) (X : Stand K.p l K.e K.R (K.s.setVm vm) K.m K.args K.below K.meth K.c T' (locs ++ [⟨a, sl⟩]) cells slots) (e : T'.heap = h') (W : Wr h h' a sl v) :
    Pos l Z EL it n0 own h0 ws0 K h' ws cells slots vm T' (locs ++ [⟨a, sl⟩]) := by
  obtain ⟨-, -, ⟨k, hS, hk⟩, hZ, hown, H, N, Kp, O, Ow⟩ := P
  obtain ⟨q1, q2, q3, q4⟩ := Ow a ha
  exact ⟨X, e, ⟨k, hS, W.size ▸ hk⟩, hZ, hown, H.trans (CHx.wr W q3 H.1), Fr.snoc X N q1, Kp.wr W q4, O.wr W q1, fun x hx => ⟨(Ow x hx).1, W.size ▸ (Ow x hx).2.1, Safe.wr W q3 H.1 (Ow x hx).2.2.1, (Ow x hx).2.2.2⟩⟩
/-! plain steps -/
theorem Ok.aloadN (C : Ok l Z a0 EL it n0 own h0 ws0 Q code maxL ret nm rm K) {k : Fin 4} {v : Value} (hd : decode code pc = .ok (.aload_n k, 1)) (hl : Ls[k.val]? = some (.val v)) (hv : v.isRef = true) (r : WP l Z EL it n0 own h0 ws0 Q K h ws cells slots (mkF K.m (pc + 1) Ls (v :: st))) : WP l Z EL it n0 own h0 ws0 Q K h ws cells slots (mkF K.m pc Ls st) :=
  WP.step (fun _ _ _ P _ k => XS.aloadN P.1.here C.exec rfl (hb C.bytes hd) hl hv k) r
theorem Ok.aload (C : Ok l Z a0 EL it n0 own h0 ws0 Q code maxL ret nm rm K) {k : Nat} {v : Value} (hd : decode code pc = .ok (.aload k, 2)) (hl : Ls[k]? = some (.val v)) (hv : v.isRef = true) (r : WP l Z EL it n0 own h0 ws0 Q K h ws cells slots (mkF K.m (pc + 2) Ls (v :: st))) : WP l Z EL it n0 own h0 ws0 Q K h ws cells slots (mkF K.m pc Ls st) :=
  WP.step (fun _ _ _ P _ k => XS.aload P.1.here C.exec rfl (hb C.bytes hd) hl hv k) r
theorem Ok.iloadN (C : Ok l Z a0 EL it n0 own h0 ws0 Q code maxL ret nm rm K) {k : Fin 4} {v : Int32} (hd : decode code pc = .ok (.iload_n k, 1)) (hl : Ls[k.val]? = some (.val (.int v))) (r : WP l Z EL it n0 own h0 ws0 Q K h ws cells slots (mkF K.m (pc + 1) Ls (.int v :: st))) : WP l Z EL it n0 own h0 ws0 Q K h ws cells slots (mkF K.m pc Ls st) :=
  WP.step (fun _ _ _ P _ k => XS.iloadN P.1.here C.exec rfl (hb C.bytes hd) hl k) r
theorem Ok.iload (C : Ok l Z a0 EL it n0 own h0 ws0 Q code maxL ret nm rm K) {k : Nat} {v : Int32} (hd : decode code pc = .ok (.iload k, 2)) (hl : Ls[k]? = some (.val (.int v))) (r : WP l Z EL it n0 own h0 ws0 Q K h ws cells slots (mkF K.m (pc + 2) Ls (.int v :: st))) : WP l Z EL it n0 own h0 ws0 Q K h ws cells slots (mkF K.m pc Ls st) :=
  WP.step (fun _ _ _ P _ k => XS.iload P.1.here C.exec rfl (hb C.bytes hd) hl k) r
theorem Ok.lloadN (C : Ok l Z a0 EL it n0 own h0 ws0 Q code maxL ret nm rm K) {k : Fin 4} {v : Int64} (hd : decode code pc = .ok (.lload_n k, 1)) (hl : Ls[k.val]? = some (.val (.long v))) (r : WP l Z EL it n0 own h0 ws0 Q K h ws cells slots (mkF K.m (pc + 1) Ls (.long v :: st))) : WP l Z EL it n0 own h0 ws0 Q K h ws cells slots (mkF K.m pc Ls st) :=
  WP.step (fun _ _ _ P _ k => XS.lloadN P.1.here C.exec rfl (hb C.bytes hd) hl k) r
theorem Ok.lload (C : Ok l Z a0 EL it n0 own h0 ws0 Q code maxL ret nm rm K) {k : Nat} {v : Int64} (hd : decode code pc = .ok (.lload k, 2)) (hl : Ls[k]? = some (.val (.long v))) (r : WP l Z EL it n0 own h0 ws0 Q K h ws cells slots (mkF K.m (pc + 2) Ls (.long v :: st))) : WP l Z EL it n0 own h0 ws0 Q K h ws cells slots (mkF K.m pc Ls st) :=
  WP.step (fun _ _ _ P _ k => XS.lload P.1.here C.exec rfl (hb C.bytes hd) hl k) r
theorem Ok.iconst (C : Ok l Z a0 EL it n0 own h0 ws0 Q code maxL ret nm rm K) {i : Int} {v : Int32} (hd : decode code pc = .ok (.iconst i, 1)) (hv : Int32.ofInt i = v) (r : WP l Z EL it n0 own h0 ws0 Q K h ws cells slots (mkF K.m (pc + 1) Ls (.int v :: st))) : WP l Z EL it n0 own h0 ws0 Q K h ws cells slots (mkF K.m pc Ls st) := by
  subst hv; exact WP.step (fun _ _ _ P _ k => XS.iconst P.1.here C.exec rfl (hb C.bytes hd) k) r
theorem Ok.bipush (C : Ok l Z a0 EL it n0 own h0 ws0 Q code maxL ret nm rm K) {i : Int} {v : Int32} (hd : decode code pc = .ok (.bipush i, 2)) (hv : (Int8.ofInt i).toInt32 = v) (r : WP l Z EL it n0 own h0 ws0 Q K h ws cells slots (mkF K.m (pc + 2) Ls (.int v :: st))) : WP l Z EL it n0 own h0 ws0 Q K h ws cells slots (mkF K.m pc Ls st) := by
  subst hv; exact WP.step (fun _ _ _ P _ k => XS.bipush P.1.here C.exec rfl (hb C.bytes hd) k) r
theorem Ok.sipush (C : Ok l Z a0 EL it n0 own h0 ws0 Q code maxL ret nm rm K) {i : Int} {v : Int32} (hd : decode code pc = .ok (.sipush i, 3)) (hv : (Int16.ofInt i).toInt32 = v) (r : WP l Z EL it n0 own h0 ws0 Q K h ws cells slots (mkF K.m (pc + 3) Ls (.int v :: st))) : WP l Z EL it n0 own h0 ws0 Q K h ws cells slots (mkF K.m pc Ls st) := by
  subst hv; exact WP.step (fun _ _ _ P _ k => XS.sipush P.1.here C.exec rfl (hb C.bytes hd) k) r
theorem Ok.lconst (C : Ok l Z a0 EL it n0 own h0 ws0 Q code maxL ret nm rm K) {i : Fin 2} (hd : decode code pc = .ok (.lconst i, 1)) {v : Int64} (hv : Int64.ofNat i.val = v) (r : WP l Z EL it n0 own h0 ws0 Q K h ws cells slots (mkF K.m (pc + 1) Ls (.long v :: st))) : WP l Z EL it n0 own h0 ws0 Q K h ws cells slots (mkF K.m pc Ls st) := by
  subst hv; exact WP.step (fun _ _ _ P _ k => XS.lconst P.1.here C.exec rfl (hb C.bytes hd) k) r
theorem Ok.aconstNull (C : Ok l Z a0 EL it n0 own h0 ws0 Q code maxL ret nm rm K) (hd : decode code pc = .ok (.aconst_null, 1)) (r : WP l Z EL it n0 own h0 ws0 Q K h ws cells slots (mkF K.m (pc + 1) Ls (.null :: st))) : WP l Z EL it n0 own h0 ws0 Q K h ws cells slots (mkF K.m pc Ls st) :=
  WP.step (fun _ _ _ P _ k => XS.aconstNull P.1.here C.exec rfl (hb C.bytes hd) k) r
theorem Ok.ldcInt (C : Ok l Z a0 EL it n0 own h0 ws0 Q code maxL ret nm rm K) {index : Nat} {v : Int32} (w : (Jvm.Cond.constant own index v).before a0 Z = true) (hd : decode code pc = .ok (.ldc index, 2)) (r : WP l Z EL it n0 own h0 ws0 Q K h ws cells slots (mkF K.m (pc + 2) Ls (.int v :: st))) : WP l Z EL it n0 own h0 ws0 Q K h ws cells slots (mkF K.m pc Ls st) :=
  WP.step (fun _ _ _ P t k => P.1.ldcInt C.exec P.2.2.2.2.1 (mv P.2.2.2.1 w) (g := mkF K.m pc Ls st) rfl (hb C.bytes hd) t k) r
theorem Ok.ldcwInt (C : Ok l Z a0 EL it n0 own h0 ws0 Q code maxL ret nm rm K) {index : Nat} {v : Int32} (w : (Jvm.Cond.constant own index v).before a0 Z = true) (hd : decode code pc = .ok (.ldc_w index, 3)) (r : WP l Z EL it n0 own h0 ws0 Q K h ws cells slots (mkF K.m (pc + 3) Ls (.int v :: st))) : WP l Z EL it n0 own h0 ws0 Q K h ws cells slots (mkF K.m pc Ls st) :=
  WP.step (fun _ _ _ P t k => P.1.ldcwInt C.exec P.2.2.2.2.1 (mv P.2.2.2.1 w) (g := mkF K.m pc Ls st) rfl (hb C.bytes hd) t k) r
theorem Ok.ldc2Long (C : Ok l Z a0 EL it n0 own h0 ws0 Q code maxL ret nm rm K) {index : Nat} {v : Int64} (w : (Jvm.Cond.constantLong own index v).before a0 Z = true) (hd : decode code pc = .ok (.ldc2_w index, 3)) (r : WP l Z EL it n0 own h0 ws0 Q K h ws cells slots (mkF K.m (pc + 3) Ls (.long v :: st))) : WP l Z EL it n0 own h0 ws0 Q K h ws cells slots (mkF K.m pc Ls st) :=
  WP.step (fun _ _ _ P t k => P.1.ldc2Long C.exec P.2.2.2.2.1 (mv P.2.2.2.1 w) (g := mkF K.m pc Ls st) rfl (hb C.bytes hd) t k) r
theorem Ok.iadd (C : Ok l Z a0 EL it n0 own h0 ws0 Q code maxL ret nm rm K) {x y : Int32} (hd : decode code pc = .ok (.iadd, 1)) (r : WP l Z EL it n0 own h0 ws0 Q K h ws cells slots (mkF K.m (pc + 1) Ls (.int (x + y) :: st))) : WP l Z EL it n0 own h0 ws0 Q K h ws cells slots (mkF K.m pc Ls (.int y :: .int x :: st)) :=
  WP.step (fun _ _ _ P _ k => XS.iadd P.1.here C.exec rfl (hb C.bytes hd) rfl k) r
theorem Ok.isub (C : Ok l Z a0 EL it n0 own h0 ws0 Q code maxL ret nm rm K) {x y : Int32} (hd : decode code pc = .ok (.isub, 1)) (r : WP l Z EL it n0 own h0 ws0 Q K h ws cells slots (mkF K.m (pc + 1) Ls (.int (x - y) :: st))) : WP l Z EL it n0 own h0 ws0 Q K h ws cells slots (mkF K.m pc Ls (.int y :: .int x :: st)) :=
  WP.step (fun _ _ _ P _ k => XS.isub P.1.here C.exec rfl (hb C.bytes hd) rfl k) r
theorem Ok.imul (C : Ok l Z a0 EL it n0 own h0 ws0 Q code maxL ret nm rm K) {x y : Int32} (hd : decode code pc = .ok (.imul, 1)) (r : WP l Z EL it n0 own h0 ws0 Q K h ws cells slots (mkF K.m (pc + 1) Ls (.int (x * y) :: st))) : WP l Z EL it n0 own h0 ws0 Q K h ws cells slots (mkF K.m pc Ls (.int y :: .int x :: st)) :=
  WP.step (fun _ _ _ P _ k => XS.imul P.1.here C.exec rfl (hb C.bytes hd) rfl k) r
theorem Ok.iand (C : Ok l Z a0 EL it n0 own h0 ws0 Q code maxL ret nm rm K) {x y : Int32} (hd : decode code pc = .ok (.iand, 1)) (r : WP l Z EL it n0 own h0 ws0 Q K h ws cells slots (mkF K.m (pc + 1) Ls (.int (x &&& y) :: st))) : WP l Z EL it n0 own h0 ws0 Q K h ws cells slots (mkF K.m pc Ls (.int y :: .int x :: st)) :=
  WP.step (fun _ _ _ P _ k => XS.iand P.1.here C.exec rfl (hb C.bytes hd) rfl k) r
theorem Ok.ior (C : Ok l Z a0 EL it n0 own h0 ws0 Q code maxL ret nm rm K) {x y : Int32} (hd : decode code pc = .ok (.ior, 1)) (r : WP l Z EL it n0 own h0 ws0 Q K h ws cells slots (mkF K.m (pc + 1) Ls (.int (x ||| y) :: st))) : WP l Z EL it n0 own h0 ws0 Q K h ws cells slots (mkF K.m pc Ls (.int y :: .int x :: st)) :=
  WP.step (fun _ _ _ P _ k => XS.ior P.1.here C.exec rfl (hb C.bytes hd) rfl k) r
theorem Ok.ixor (C : Ok l Z a0 EL it n0 own h0 ws0 Q code maxL ret nm rm K) {x y : Int32} (hd : decode code pc = .ok (.ixor, 1)) (r : WP l Z EL it n0 own h0 ws0 Q K h ws cells slots (mkF K.m (pc + 1) Ls (.int (x ^^^ y) :: st))) : WP l Z EL it n0 own h0 ws0 Q K h ws cells slots (mkF K.m pc Ls (.int y :: .int x :: st)) :=
  WP.step (fun _ _ _ P _ k => XS.ixor P.1.here C.exec rfl (hb C.bytes hd) rfl k) r
theorem Ok.ladd (C : Ok l Z a0 EL it n0 own h0 ws0 Q code maxL ret nm rm K) {x y : Int64} (hd : decode code pc = .ok (.ladd, 1)) (r : WP l Z EL it n0 own h0 ws0 Q K h ws cells slots (mkF K.m (pc + 1) Ls (.long (x + y) :: st))) : WP l Z EL it n0 own h0 ws0 Q K h ws cells slots (mkF K.m pc Ls (.long y :: .long x :: st)) :=
  WP.step (fun _ _ _ P _ k => XS.ladd P.1.here C.exec rfl (hb C.bytes hd) rfl k) r
theorem Ok.lsub (C : Ok l Z a0 EL it n0 own h0 ws0 Q code maxL ret nm rm K) {x y : Int64} (hd : decode code pc = .ok (.lsub, 1)) (r : WP l Z EL it n0 own h0 ws0 Q K h ws cells slots (mkF K.m (pc + 1) Ls (.long (x - y) :: st))) : WP l Z EL it n0 own h0 ws0 Q K h ws cells slots (mkF K.m pc Ls (.long y :: .long x :: st)) :=
  WP.step (fun _ _ _ P _ k => XS.lsub P.1.here C.exec rfl (hb C.bytes hd) rfl k) r
theorem Ok.land (C : Ok l Z a0 EL it n0 own h0 ws0 Q code maxL ret nm rm K) {x y : Int64} (hd : decode code pc = .ok (.land, 1)) (r : WP l Z EL it n0 own h0 ws0 Q K h ws cells slots (mkF K.m (pc + 1) Ls (.long (x &&& y) :: st))) : WP l Z EL it n0 own h0 ws0 Q K h ws cells slots (mkF K.m pc Ls (.long y :: .long x :: st)) :=
  WP.step (fun _ _ _ P _ k => XS.land P.1.here C.exec rfl (hb C.bytes hd) rfl k) r
theorem Ok.lmul (C : Ok l Z a0 EL it n0 own h0 ws0 Q code maxL ret nm rm K) {x y : Int64} (hd : decode code pc = .ok (.lmul, 1)) (r : WP l Z EL it n0 own h0 ws0 Q K h ws cells slots (mkF K.m (pc + 1) Ls (.long (x * y) :: st))) : WP l Z EL it n0 own h0 ws0 Q K h ws cells slots (mkF K.m pc Ls (.long y :: .long x :: st)) :=
  WP.step (fun _ _ _ P _ k => XS.lmul P.1.here C.exec rfl (hb C.bytes hd) rfl k) r
theorem Ok.i2c (C : Ok l Z a0 EL it n0 own h0 ws0 Q code maxL ret nm rm K) {x : Int32} (hd : decode code pc = .ok (.i2c, 1)) (r : WP l Z EL it n0 own h0 ws0 Q K h ws cells slots (mkF K.m (pc + 1) Ls (.int (x.toUInt32.toUInt16.toUInt32.toInt32) :: st))) : WP l Z EL it n0 own h0 ws0 Q K h ws cells slots (mkF K.m pc Ls (.int x :: st)) :=
  WP.step (fun _ _ _ P _ k => XS.i2c P.1.here C.exec rfl (hb C.bytes hd) rfl k) r
theorem Ok.i2b (C : Ok l Z a0 EL it n0 own h0 ws0 Q code maxL ret nm rm K) {x : Int32} (hd : decode code pc = .ok (.i2b, 1)) (r : WP l Z EL it n0 own h0 ws0 Q K h ws cells slots (mkF K.m (pc + 1) Ls (.int (x.toInt8.toInt32) :: st))) : WP l Z EL it n0 own h0 ws0 Q K h ws cells slots (mkF K.m pc Ls (.int x :: st)) :=
  WP.step (fun _ _ _ P _ k => XS.i2b P.1.here C.exec rfl (hb C.bytes hd) rfl k) r
theorem Ok.i2l (C : Ok l Z a0 EL it n0 own h0 ws0 Q code maxL ret nm rm K) {x : Int32} (hd : decode code pc = .ok (.i2l, 1)) (r : WP l Z EL it n0 own h0 ws0 Q K h ws cells slots (mkF K.m (pc + 1) Ls (.long (x.toInt64) :: st))) : WP l Z EL it n0 own h0 ws0 Q K h ws cells slots (mkF K.m pc Ls (.int x :: st)) :=
  WP.step (fun _ _ _ P _ k => XS.i2l P.1.here C.exec rfl (hb C.bytes hd) rfl k) r
theorem Ok.l2i (C : Ok l Z a0 EL it n0 own h0 ws0 Q code maxL ret nm rm K) {x : Int64} (hd : decode code pc = .ok (.l2i, 1)) (r : WP l Z EL it n0 own h0 ws0 Q K h ws cells slots (mkF K.m (pc + 1) Ls (.int (x.toInt32) :: st))) : WP l Z EL it n0 own h0 ws0 Q K h ws cells slots (mkF K.m pc Ls (.long x :: st)) :=
  WP.step (fun _ _ _ P _ k => XS.l2i P.1.here C.exec rfl (hb C.bytes hd) rfl k) r
theorem Ok.ineg (C : Ok l Z a0 EL it n0 own h0 ws0 Q code maxL ret nm rm K) {x : Int32} (hd : decode code pc = .ok (.ineg, 1)) (r : WP l Z EL it n0 own h0 ws0 Q K h ws cells slots (mkF K.m (pc + 1) Ls (.int (-x) :: st))) : WP l Z EL it n0 own h0 ws0 Q K h ws cells slots (mkF K.m pc Ls (.int x :: st)) :=
  WP.step (fun _ _ _ P _ k => XS.ineg P.1.here C.exec rfl (hb C.bytes hd) rfl k) r
theorem Ok.ishl (C : Ok l Z a0 EL it n0 own h0 ws0 Q code maxL ret nm rm K) {x y : Int32} (hd : decode code pc = .ok (.ishl, 1)) (r : WP l Z EL it n0 own h0 ws0 Q K h ws cells slots (mkF K.m (pc + 1) Ls (.int (x <<< (y &&& 31)) :: st))) : WP l Z EL it n0 own h0 ws0 Q K h ws cells slots (mkF K.m pc Ls (.int y :: .int x :: st)) :=
  WP.step (fun _ _ _ P _ k => XS.ishl P.1.here C.exec rfl (hb C.bytes hd) rfl k) r
theorem Ok.ishr (C : Ok l Z a0 EL it n0 own h0 ws0 Q code maxL ret nm rm K) {x y : Int32} (hd : decode code pc = .ok (.ishr, 1)) (r : WP l Z EL it n0 own h0 ws0 Q K h ws cells slots (mkF K.m (pc + 1) Ls (.int (x >>> (y &&& 31)) :: st))) : WP l Z EL it n0 own h0 ws0 Q K h ws cells slots (mkF K.m pc Ls (.int y :: .int x :: st)) :=
  WP.step (fun _ _ _ P _ k => XS.ishr P.1.here C.exec rfl (hb C.bytes hd) rfl k) r
theorem Ok.iushr (C : Ok l Z a0 EL it n0 own h0 ws0 Q code maxL ret nm rm K) {x y : Int32} (hd : decode code pc = .ok (.iushr, 1)) (r : WP l Z EL it n0 own h0 ws0 Q K h ws cells slots (mkF K.m (pc + 1) Ls (.int (x.toUInt32 >>> (y &&& 31).toUInt32).toInt32 :: st))) : WP l Z EL it n0 own h0 ws0 Q K h ws cells slots (mkF K.m pc Ls (.int y :: .int x :: st)) :=
  WP.step (fun _ _ _ P _ k => XS.iushr P.1.here C.exec rfl (hb C.bytes hd) rfl k) r
theorem Ok.lushr (C : Ok l Z a0 EL it n0 own h0 ws0 Q code maxL ret nm rm K) {x : Int64} {y : Int32} (hd : decode code pc = .ok (.lushr, 1)) (r : WP l Z EL it n0 own h0 ws0 Q K h ws cells slots (mkF K.m (pc + 1) Ls (.long (x.toUInt64 >>> (y &&& 0x3f).toInt64.toUInt64).toInt64 :: st))) : WP l Z EL it n0 own h0 ws0 Q K h ws cells slots (mkF K.m pc Ls (.int y :: .long x :: st)) :=
  WP.step (fun _ _ _ P _ k => XS.lushr P.1.here C.exec rfl (hb C.bytes hd) rfl k) r
theorem Ok.idiv (C : Ok l Z a0 EL it n0 own h0 ws0 Q code maxL ret nm rm K) {x y : Int32} (hy : y ≠ 0) (hd : decode code pc = .ok (.idiv, 1)) (r : WP l Z EL it n0 own h0 ws0 Q K h ws cells slots (mkF K.m (pc + 1) Ls (.int (x / y) :: st))) : WP l Z EL it n0 own h0 ws0 Q K h ws cells slots (mkF K.m pc Ls (.int y :: .int x :: st)) :=
  WP.step (fun _ _ _ P _ k => XS.idiv P.1.here C.exec rfl (hb C.bytes hd) rfl hy k) r
theorem Ok.irem (C : Ok l Z a0 EL it n0 own h0 ws0 Q code maxL ret nm rm K) {x y : Int32} (hy : y ≠ 0) (hd : decode code pc = .ok (.irem, 1)) (r : WP l Z EL it n0 own h0 ws0 Q K h ws cells slots (mkF K.m (pc + 1) Ls (.int (x % y) :: st))) : WP l Z EL it n0 own h0 ws0 Q K h ws cells slots (mkF K.m pc Ls (.int y :: .int x :: st)) :=
  WP.step (fun _ _ _ P _ k => iremM P.1 C.exec (g := mkF K.m pc Ls (.int y :: .int x :: st)) rfl (hb C.bytes hd) rfl hy k) r
theorem Ok.ldiv (C : Ok l Z a0 EL it n0 own h0 ws0 Q code maxL ret nm rm K) {x y : Int64} (hy : y ≠ 0) (hd : decode code pc = .ok (.ldiv, 1)) (r : WP l Z EL it n0 own h0 ws0 Q K h ws cells slots (mkF K.m (pc + 1) Ls (.long (x / y) :: st))) : WP l Z EL it n0 own h0 ws0 Q K h ws cells slots (mkF K.m pc Ls (.long y :: .long x :: st)) :=
  WP.step (fun _ _ _ P _ k => XS.ldiv P.1.here C.exec rfl (hb C.bytes hd) rfl hy k) r
theorem Ok.lrem (C : Ok l Z a0 EL it n0 own h0 ws0 Q code maxL ret nm rm K) {x y : Int64} (hy : y ≠ 0) (hd : decode code pc = .ok (.lrem, 1)) (r : WP l Z EL it n0 own h0 ws0 Q K h ws cells slots (mkF K.m (pc + 1) Ls (.long (x % y) :: st))) : WP l Z EL it n0 own h0 ws0 Q K h ws cells slots (mkF K.m pc Ls (.long y :: .long x :: st)) :=
  WP.step (fun _ _ _ P _ k => XS.lrem P.1.here C.exec rfl (hb C.bytes hd) rfl hy (by rw [lrem_mod]; exact k)) r
theorem Ok.lcmp (C : Ok l Z a0 EL it n0 own h0 ws0 Q code maxL ret nm rm K) {x y : Int64} (hd : decode code pc = .ok (.lcmp, 1)) (r : WP l Z EL it n0 own h0 ws0 Q K h ws cells slots (mkF K.m (pc + 1) Ls (.int (lcmpW x y) :: st))) : WP l Z EL it n0 own h0 ws0 Q K h ws cells slots (mkF K.m pc Ls (.long y :: .long x :: st)) :=
  WP.step (fun _ _ _ P _ k => XS.lcmp P.1.here C.exec rfl (hb C.bytes hd) rfl k) r
theorem Ok.dup (C : Ok l Z a0 EL it n0 own h0 ws0 Q code maxL ret nm rm K) {x : Value} (hc : x.category = 1) (hd : decode code pc = .ok (.dup, 1)) (r : WP l Z EL it n0 own h0 ws0 Q K h ws cells slots (mkF K.m (pc + 1) Ls (x :: x :: st))) : WP l Z EL it n0 own h0 ws0 Q K h ws cells slots (mkF K.m pc Ls (x :: st)) :=
  WP.step (fun _ _ _ P _ k => XS.dup P.1.here C.exec rfl (hb C.bytes hd) rfl hc k) r
theorem Ok.pop (C : Ok l Z a0 EL it n0 own h0 ws0 Q code maxL ret nm rm K) {x : Value} (hc : x.category = 1) (hd : decode code pc = .ok (.pop, 1)) (r : WP l Z EL it n0 own h0 ws0 Q K h ws cells slots (mkF K.m (pc + 1) Ls st)) : WP l Z EL it n0 own h0 ws0 Q K h ws cells slots (mkF K.m pc Ls (x :: st)) :=
  WP.step (fun _ _ _ P _ k => XS.pop P.1.here C.exec rfl (hb C.bytes hd) rfl hc k) r
theorem Ok.istoreN (C : Ok l Z a0 EL it n0 own h0 ws0 Q code maxL ret nm rm K) {k : Fin 4} {x : Int32} (L' : Array Slot) (hd : decode code pc = .ok (.istore_n k, 1)) (hl : storeLocals Ls k.val (.int x) = some L') (r : WP l Z EL it n0 own h0 ws0 Q K h ws cells slots (mkF K.m (pc + 1) L' st)) : WP l Z EL it n0 own h0 ws0 Q K h ws cells slots (mkF K.m pc Ls (.int x :: st)) :=
  WP.step (fun _ _ _ P _ k => XS.istoreN P.1.here C.exec rfl (hb C.bytes hd) rfl hl k) r
theorem Ok.istore (C : Ok l Z a0 EL it n0 own h0 ws0 Q code maxL ret nm rm K) {k : Nat} {x : Int32} (L' : Array Slot) (hd : decode code pc = .ok (.istore k, 2)) (hl : storeLocals Ls k (.int x) = some L') (r : WP l Z EL it n0 own h0 ws0 Q K h ws cells slots (mkF K.m (pc + 2) L' st)) : WP l Z EL it n0 own h0 ws0 Q K h ws cells slots (mkF K.m pc Ls (.int x :: st)) :=
  WP.step (fun _ _ _ P _ k => XS.istore P.1.here C.exec rfl (hb C.bytes hd) rfl hl k) r
theorem Ok.astoreN (C : Ok l Z a0 EL it n0 own h0 ws0 Q code maxL ret nm rm K) {k : Fin 4} {x : Value} (L' : Array Slot) (hd : decode code pc = .ok (.astore_n k, 1)) (hv : x.isRef = true) (hl : storeLocals Ls k.val x = some L') (r : WP l Z EL it n0 own h0 ws0 Q K h ws cells slots (mkF K.m (pc + 1) L' st)) : WP l Z EL it n0 own h0 ws0 Q K h ws cells slots (mkF K.m pc Ls (x :: st)) :=
  WP.step (fun _ _ _ P _ k => XS.astoreN P.1.here C.exec rfl (hb C.bytes hd) rfl hv hl k) r
theorem Ok.astore (C : Ok l Z a0 EL it n0 own h0 ws0 Q code maxL ret nm rm K) {k : Nat} {x : Value} (L' : Array Slot) (hd : decode code pc = .ok (.astore k, 2)) (hv : x.isRef = true) (hl : storeLocals Ls k x = some L') (r : WP l Z EL it n0 own h0 ws0 Q K h ws cells slots (mkF K.m (pc + 2) L' st)) : WP l Z EL it n0 own h0 ws0 Q K h ws cells slots (mkF K.m pc Ls (x :: st)) :=
  WP.step (fun _ _ _ P _ k => XS.astore P.1.here C.exec rfl (hb C.bytes hd) rfl hv hl k) r
theorem Ok.lstoreN (C : Ok l Z a0 EL it n0 own h0 ws0 Q code maxL ret nm rm K) {k : Fin 4} {x : Int64} (L' : Array Slot) (hd : decode code pc = .ok (.lstore_n k, 1)) (hl : storeLocals Ls k.val (.long x) = some L') (r : WP l Z EL it n0 own h0 ws0 Q K h ws cells slots (mkF K.m (pc + 1) L' st)) : WP l Z EL it n0 own h0 ws0 Q K h ws cells slots (mkF K.m pc Ls (.long x :: st)) :=
  WP.step (fun _ _ _ P _ k => XS.lstoreN P.1.here C.exec rfl (hb C.bytes hd) rfl hl k) r
theorem Ok.lstore (C : Ok l Z a0 EL it n0 own h0 ws0 Q code maxL ret nm rm K) {k : Nat} {x : Int64} (L' : Array Slot) (hd : decode code pc = .ok (.lstore k, 2)) (hl : storeLocals Ls k (.long x) = some L') (r : WP l Z EL it n0 own h0 ws0 Q K h ws cells slots (mkF K.m (pc + 2) L' st)) : WP l Z EL it n0 own h0 ws0 Q K h ws cells slots (mkF K.m pc Ls (.long x :: st)) :=
  WP.step (fun _ _ _ P _ k => XS.lstore P.1.here C.exec rfl (hb C.bytes hd) rfl hl k) r
theorem Ok.iinc (C : Ok l Z a0 EL it n0 own h0 ws0 Q code maxL ret nm rm K) {k : Nat} {cst : Int} {x z : Int32} (L' : Array Slot) (hd : decode code pc = .ok (.iinc k cst, 3)) (hl : Ls[k]? = some (.val (.int x))) (hz : Int32.ofInt cst = z) (hl' : storeLocals Ls k (.int (x + z)) = some L') (r : WP l Z EL it n0 own h0 ws0 Q K h ws cells slots (mkF K.m (pc + 3) L' st)) : WP l Z EL it n0 own h0 ws0 Q K h ws cells slots (mkF K.m pc Ls st) := by
  subst hz; exact WP.step (fun _ _ _ P _ k => XS.iinc P.1.here C.exec rfl (hb C.bytes hd) hl hl' k) r
theorem Ok.goto (C : Ok l Z a0 EL it n0 own h0 ws0 Q code maxL ret nm rm K) {o : Int} (pc' : Nat) (hd : decode code pc = .ok (.goto o, 3)) (ho : 0 ≤ (pc : Int) + o) (hp : ((pc : Int) + o).toNat = pc') (r : WP l Z EL it n0 own h0 ws0 Q K h ws cells slots (mkF K.m pc' Ls st)) : WP l Z EL it n0 own h0 ws0 Q K h ws cells slots (mkF K.m pc Ls st) :=
  WP.step (fun _ _ _ P _ k => XS.goto P.1.here C.exec rfl rfl (hb C.bytes hd) ho hp k) r
/-! branches -/
theorem Ok.icmp (C : Ok l Z a0 EL it n0 own h0 ws0 Q code maxL ret nm rm K) {cd : ClassFile.Cond} {x y : Int32} {o : Int} (pc' : Nat) (hd : decode code pc = .ok (.if_icmp cd o, 3)) (ho : 0 ≤ (pc : Int) + o) (hp : ((pc : Int) + o).toNat = pc') (t : if_icmp.holds cd x y = true → WP l Z EL it n0 own h0 ws0 Q K h ws cells slots (mkF K.m pc' Ls st)) (f : if_icmp.holds cd x y = false → WP l Z EL it n0 own h0 ws0 Q K h ws cells slots (mkF K.m (pc + 3) Ls st)) : WP l Z EL it n0 own h0 ws0 Q K h ws cells slots (mkF K.m pc Ls (.int y :: .int x :: st)) := by
  cases q : if_icmp.holds cd x y
  · exact WP.step (fun _ _ _ P _ k => XS.icmpNo P.1.here C.exec rfl (hb C.bytes hd) rfl q k) (f q)
  · exact WP.step (fun _ _ _ P _ k => XS.icmpYes P.1.here C.exec rfl rfl (hb C.bytes hd) rfl q ho hp k) (t q)
theorem Ok.ifc (C : Ok l Z a0 EL it n0 own h0 ws0 Q code maxL ret nm rm K) {cd : ClassFile.Cond} {x : Int32} {o : Int} (pc' : Nat) (hd : decode code pc = .ok (.ifCond cd o, 3)) (ho : 0 ≤ (pc : Int) + o) (hp : ((pc : Int) + o).toNat = pc') (t : if_icmp.holds cd x 0 = true → WP l Z EL it n0 own h0 ws0 Q K h ws cells slots (mkF K.m pc' Ls st)) (f : if_icmp.holds cd x 0 = false → WP l Z EL it n0 own h0 ws0 Q K h ws cells slots (mkF K.m (pc + 3) Ls st)) : WP l Z EL it n0 own h0 ws0 Q K h ws cells slots (mkF K.m pc Ls (.int x :: st)) := by
  cases q : if_icmp.holds cd x 0
  · exact WP.step (fun _ _ _ P _ k => XS.ifNo P.1.here C.exec rfl (hb C.bytes hd) rfl (by rw [if0]; exact q) k) (f q)
  · exact WP.step (fun _ _ _ P _ k => XS.ifYes P.1.here C.exec rfl rfl (hb C.bytes hd) rfl (by rw [if0]; exact q) ho hp k) (t q)
theorem hEq (x y : Int32) : (if_icmp.holds .eq x y = true ↔ x.toInt = y.toInt) ∧ (if_icmp.holds .eq x y = false ↔ x.toInt ≠ y.toInt) := by simp [if_icmp.holds, Int32.toInt_inj]
theorem hNe (x y : Int32) : (if_icmp.holds .ne x y = true ↔ x.toInt ≠ y.toInt) ∧ (if_icmp.holds .ne x y = false ↔ x.toInt = y.toInt) := by simp [if_icmp.holds, Int32.toInt_inj]
theorem hLt (x y : Int32) : (if_icmp.holds .lt x y = true ↔ x.toInt < y.toInt) ∧ (if_icmp.holds .lt x y = false ↔ y.toInt ≤ x.toInt) := by simp [if_icmp.holds, Int32.lt_iff_toInt_lt, Int32.le_iff_toInt_le]
theorem hGe (x y : Int32) : (if_icmp.holds .ge x y = true ↔ y.toInt ≤ x.toInt) ∧ (if_icmp.holds .ge x y = false ↔ x.toInt < y.toInt) := by simp [if_icmp.holds, Int32.lt_iff_toInt_lt, Int32.le_iff_toInt_le]
theorem hGt (x y : Int32) : (if_icmp.holds .gt x y = true ↔ y.toInt < x.toInt) ∧ (if_icmp.holds .gt x y = false ↔ x.toInt ≤ y.toInt) := by simp [if_icmp.holds, Int32.lt_iff_toInt_lt, Int32.le_iff_toInt_le]
theorem hLe (x y : Int32) : (if_icmp.holds .le x y = true ↔ x.toInt ≤ y.toInt) ∧ (if_icmp.holds .le x y = false ↔ y.toInt < x.toInt) := by simp [if_icmp.holds, Int32.lt_iff_toInt_lt, Int32.le_iff_toInt_le]
theorem Ok.icmp_eq (C : Ok l Z a0 EL it n0 own h0 ws0 Q code maxL ret nm rm K) {x y : Int32} {o : Int} (pc' : Nat) (hd : decode code pc = .ok (.if_icmp .eq o, 3)) (ho : 0 ≤ (pc : Int) + o) (hp : ((pc : Int) + o).toNat = pc') (t : x.toInt = y.toInt → WP l Z EL it n0 own h0 ws0 Q K h ws cells slots (mkF K.m pc' Ls st)) (f : x.toInt ≠ y.toInt → WP l Z EL it n0 own h0 ws0 Q K h ws cells slots (mkF K.m (pc + 3) Ls st)) : WP l Z EL it n0 own h0 ws0 Q K h ws cells slots (mkF K.m pc Ls (.int y :: .int x :: st)) :=
  C.icmp pc' hd ho hp (fun q => t ((hEq x y).1.mp q)) (fun q => f ((hEq x y).2.mp q))
theorem Ok.ifc_eq (C : Ok l Z a0 EL it n0 own h0 ws0 Q code maxL ret nm rm K) {x : Int32} {o : Int} (pc' : Nat) (hd : decode code pc = .ok (.ifCond .eq o, 3)) (ho : 0 ≤ (pc : Int) + o) (hp : ((pc : Int) + o).toNat = pc') (t : x.toInt = 0 → WP l Z EL it n0 own h0 ws0 Q K h ws cells slots (mkF K.m pc' Ls st)) (f : x.toInt ≠ 0 → WP l Z EL it n0 own h0 ws0 Q K h ws cells slots (mkF K.m (pc + 3) Ls st)) : WP l Z EL it n0 own h0 ws0 Q K h ws cells slots (mkF K.m pc Ls (.int x :: st)) :=
  C.ifc pc' hd ho hp (fun q => t ((hEq x 0).1.mp q)) (fun q => f ((hEq x 0).2.mp q))
theorem Ok.icmp_ne (C : Ok l Z a0 EL it n0 own h0 ws0 Q code maxL ret nm rm K) {x y : Int32} {o : Int} (pc' : Nat) (hd : decode code pc = .ok (.if_icmp .ne o, 3)) (ho : 0 ≤ (pc : Int) + o) (hp : ((pc : Int) + o).toNat = pc') (t : x.toInt ≠ y.toInt → WP l Z EL it n0 own h0 ws0 Q K h ws cells slots (mkF K.m pc' Ls st)) (f : x.toInt = y.toInt → WP l Z EL it n0 own h0 ws0 Q K h ws cells slots (mkF K.m (pc + 3) Ls st)) : WP l Z EL it n0 own h0 ws0 Q K h ws cells slots (mkF K.m pc Ls (.int y :: .int x :: st)) :=
  C.icmp pc' hd ho hp (fun q => t ((hNe x y).1.mp q)) (fun q => f ((hNe x y).2.mp q))
theorem Ok.ifc_ne (C : Ok l Z a0 EL it n0 own h0 ws0 Q code maxL ret nm rm K) {x : Int32} {o : Int} (pc' : Nat) (hd : decode code pc = .ok (.ifCond .ne o, 3)) (ho : 0 ≤ (pc : Int) + o) (hp : ((pc : Int) + o).toNat = pc') (t : x.toInt ≠ 0 → WP l Z EL it n0 own h0 ws0 Q K h ws cells slots (mkF K.m pc' Ls st)) (f : x.toInt = 0 → WP l Z EL it n0 own h0 ws0 Q K h ws cells slots (mkF K.m (pc + 3) Ls st)) : WP l Z EL it n0 own h0 ws0 Q K h ws cells slots (mkF K.m pc Ls (.int x :: st)) :=
  C.ifc pc' hd ho hp (fun q => t ((hNe x 0).1.mp q)) (fun q => f ((hNe x 0).2.mp q))
theorem Ok.icmp_lt (C : Ok l Z a0 EL it n0 own h0 ws0 Q code maxL ret nm rm K) {x y : Int32} {o : Int} (pc' : Nat) (hd : decode code pc = .ok (.if_icmp .lt o, 3)) (ho : 0 ≤ (pc : Int) + o) (hp : ((pc : Int) + o).toNat = pc') (t : x.toInt < y.toInt → WP l Z EL it n0 own h0 ws0 Q K h ws cells slots (mkF K.m pc' Ls st)) (f : y.toInt ≤ x.toInt → WP l Z EL it n0 own h0 ws0 Q K h ws cells slots (mkF K.m (pc + 3) Ls st)) : WP l Z EL it n0 own h0 ws0 Q K h ws cells slots (mkF K.m pc Ls (.int y :: .int x :: st)) :=
  C.icmp pc' hd ho hp (fun q => t ((hLt x y).1.mp q)) (fun q => f ((hLt x y).2.mp q))
theorem Ok.ifc_lt (C : Ok l Z a0 EL it n0 own h0 ws0 Q code maxL ret nm rm K) {x : Int32} {o : Int} (pc' : Nat) (hd : decode code pc = .ok (.ifCond .lt o, 3)) (ho : 0 ≤ (pc : Int) + o) (hp : ((pc : Int) + o).toNat = pc') (t : x.toInt < 0 → WP l Z EL it n0 own h0 ws0 Q K h ws cells slots (mkF K.m pc' Ls st)) (f : 0 ≤ x.toInt → WP l Z EL it n0 own h0 ws0 Q K h ws cells slots (mkF K.m (pc + 3) Ls st)) : WP l Z EL it n0 own h0 ws0 Q K h ws cells slots (mkF K.m pc Ls (.int x :: st)) :=
  C.ifc pc' hd ho hp (fun q => t ((hLt x 0).1.mp q)) (fun q => f ((hLt x 0).2.mp q))
theorem Ok.icmp_ge (C : Ok l Z a0 EL it n0 own h0 ws0 Q code maxL ret nm rm K) {x y : Int32} {o : Int} (pc' : Nat) (hd : decode code pc = .ok (.if_icmp .ge o, 3)) (ho : 0 ≤ (pc : Int) + o) (hp : ((pc : Int) + o).toNat = pc') (t : y.toInt ≤ x.toInt → WP l Z EL it n0 own h0 ws0 Q K h ws cells slots (mkF K.m pc' Ls st)) (f : x.toInt < y.toInt → WP l Z EL it n0 own h0 ws0 Q K h ws cells slots (mkF K.m (pc + 3) Ls st)) : WP l Z EL it n0 own h0 ws0 Q K h ws cells slots (mkF K.m pc Ls (.int y :: .int x :: st)) :=
  C.icmp pc' hd ho hp (fun q => t ((hGe x y).1.mp q)) (fun q => f ((hGe x y).2.mp q))
theorem Ok.ifc_ge (C : Ok l Z a0 EL it n0 own h0 ws0 Q code maxL ret nm rm K) {x : Int32} {o : Int} (pc' : Nat) (hd : decode code pc = .ok (.ifCond .ge o, 3)) (ho : 0 ≤ (pc : Int) + o) (hp : ((pc : Int) + o).toNat = pc') (t : 0 ≤ x.toInt → WP l Z EL it n0 own h0 ws0 Q K h ws cells slots (mkF K.m pc' Ls st)) (f : x.toInt < 0 → WP l Z EL it n0 own h0 ws0 Q K h ws cells slots (mkF K.m (pc + 3) Ls st)) : WP l Z EL it n0 own h0 ws0 Q K h ws cells slots (mkF K.m pc Ls (.int x :: st)) :=
  C.ifc pc' hd ho hp (fun q => t ((hGe x 0).1.mp q)) (fun q => f ((hGe x 0).2.mp q))
theorem Ok.icmp_gt (C : Ok l Z a0 EL it n0 own h0 ws0 Q code maxL ret nm rm K) {x y : Int32} {o : Int} (pc' : Nat) (hd : decode code pc = .ok (.if_icmp .gt o, 3)) (ho : 0 ≤ (pc : Int) + o) (hp : ((pc : Int) + o).toNat = pc') (t : y.toInt < x.toInt → WP l Z EL it n0 own h0 ws0 Q K h ws cells slots (mkF K.m pc' Ls st)) (f : x.toInt ≤ y.toInt → WP l Z EL it n0 own h0 ws0 Q K h ws cells slots (mkF K.m (pc + 3) Ls st)) : WP l Z EL it n0 own h0 ws0 Q K h ws cells slots (mkF K.m pc Ls (.int y :: .int x :: st)) :=
  C.icmp pc' hd ho hp (fun q => t ((hGt x y).1.mp q)) (fun q => f ((hGt x y).2.mp q))
theorem Ok.ifc_gt (C : Ok l Z a0 EL it n0 own h0 ws0 Q code maxL ret nm rm K) {x : Int32} {o : Int} (pc' : Nat) (hd : decode code pc = .ok (.ifCond .gt o, 3)) (ho : 0 ≤ (pc : Int) + o) (hp : ((pc : Int) + o).toNat = pc') (t : 0 < x.toInt → WP l Z EL it n0 own h0 ws0 Q K h ws cells slots (mkF K.m pc' Ls st)) (f : x.toInt ≤ 0 → WP l Z EL it n0 own h0 ws0 Q K h ws cells slots (mkF K.m (pc + 3) Ls st)) : WP l Z EL it n0 own h0 ws0 Q K h ws cells slots (mkF K.m pc Ls (.int x :: st)) :=
  C.ifc pc' hd ho hp (fun q => t ((hGt x 0).1.mp q)) (fun q => f ((hGt x 0).2.mp q))
theorem Ok.icmp_le (C : Ok l Z a0 EL it n0 own h0 ws0 Q code maxL ret nm rm K) {x y : Int32} {o : Int} (pc' : Nat) (hd : decode code pc = .ok (.if_icmp .le o, 3)) (ho : 0 ≤ (pc : Int) + o) (hp : ((pc : Int) + o).toNat = pc') (t : x.toInt ≤ y.toInt → WP l Z EL it n0 own h0 ws0 Q K h ws cells slots (mkF K.m pc' Ls st)) (f : y.toInt < x.toInt → WP l Z EL it n0 own h0 ws0 Q K h ws cells slots (mkF K.m (pc + 3) Ls st)) : WP l Z EL it n0 own h0 ws0 Q K h ws cells slots (mkF K.m pc Ls (.int y :: .int x :: st)) :=
  C.icmp pc' hd ho hp (fun q => t ((hLe x y).1.mp q)) (fun q => f ((hLe x y).2.mp q))
theorem Ok.ifc_le (C : Ok l Z a0 EL it n0 own h0 ws0 Q code maxL ret nm rm K) {x : Int32} {o : Int} (pc' : Nat) (hd : decode code pc = .ok (.ifCond .le o, 3)) (ho : 0 ≤ (pc : Int) + o) (hp : ((pc : Int) + o).toNat = pc') (t : x.toInt ≤ 0 → WP l Z EL it n0 own h0 ws0 Q K h ws cells slots (mkF K.m pc' Ls st)) (f : 0 < x.toInt → WP l Z EL it n0 own h0 ws0 Q K h ws cells slots (mkF K.m (pc + 3) Ls st)) : WP l Z EL it n0 own h0 ws0 Q K h ws cells slots (mkF K.m pc Ls (.int x :: st)) :=
  C.ifc pc' hd ho hp (fun q => t ((hLe x 0).1.mp q)) (fun q => f ((hLe x 0).2.mp q))
theorem Ok.ifnullY (C : Ok l Z a0 EL it n0 own h0 ws0 Q code maxL ret nm rm K) {o : Int} (pc' : Nat) (hd : decode code pc = .ok (.ifnull o, 3)) (ho : 0 ≤ (pc : Int) + o) (hp : ((pc : Int) + o).toNat = pc') (r : WP l Z EL it n0 own h0 ws0 Q K h ws cells slots (mkF K.m pc' Ls st)) : WP l Z EL it n0 own h0 ws0 Q K h ws cells slots (mkF K.m pc Ls (.null :: st)) :=
  WP.step (fun _ _ _ P _ k => XS.ifnullYes P.1.here C.exec rfl rfl (hb C.bytes hd) rfl ho hp k) r
theorem Ok.ifnullN (C : Ok l Z a0 EL it n0 own h0 ws0 Q code maxL ret nm rm K) {o : Int} {b : Nat} (hd : decode code pc = .ok (.ifnull o, 3)) (r : WP l Z EL it n0 own h0 ws0 Q K h ws cells slots (mkF K.m (pc + 3) Ls st)) : WP l Z EL it n0 own h0 ws0 Q K h ws cells slots (mkF K.m pc Ls (.ref b :: st)) :=
  WP.step (fun _ _ _ P _ k => XS.ifnullNo P.1.here C.exec rfl (hb C.bytes hd) rfl k) r
theorem Ok.ifnonnullY (C : Ok l Z a0 EL it n0 own h0 ws0 Q code maxL ret nm rm K) {o : Int} {b : Nat} (pc' : Nat) (hd : decode code pc = .ok (.ifnonnull o, 3)) (ho : 0 ≤ (pc : Int) + o) (hp : ((pc : Int) + o).toNat = pc') (r : WP l Z EL it n0 own h0 ws0 Q K h ws cells slots (mkF K.m pc' Ls st)) : WP l Z EL it n0 own h0 ws0 Q K h ws cells slots (mkF K.m pc Ls (.ref b :: st)) :=
  WP.step (fun _ _ _ P _ k => XS.ifnonnullYes P.1.here C.exec rfl rfl (hb C.bytes hd) rfl ho hp k) r
theorem Ok.ifnonnullN (C : Ok l Z a0 EL it n0 own h0 ws0 Q code maxL ret nm rm K) {o : Int} (hd : decode code pc = .ok (.ifnonnull o, 3)) (r : WP l Z EL it n0 own h0 ws0 Q K h ws cells slots (mkF K.m (pc + 3) Ls st)) : WP l Z EL it n0 own h0 ws0 Q K h ws cells slots (mkF K.m pc Ls (.null :: st)) :=
  WP.step (fun _ _ _ P _ k => XS.ifnonnullNo P.1.here C.exec rfl (hb C.bytes hd) rfl k) r
theorem Ok.acmp (C : Ok l Z a0 EL it n0 own h0 ws0 Q code maxL ret nm rm K) {cd : ACond} {x y : Value} {o : Int} (pc' : Nat) (same : Bool) (hd : decode code pc = .ok (.if_acmp cd o, 3)) (h1 : x.isRef = true) (h2 : y.isRef = true) (hq : decide (x = y) = same) (ho : 0 ≤ (pc : Int) + o) (hp : pc' = if acV cd same = true then ((pc : Int) + o).toNat else pc + 3) (r : WP l Z EL it n0 own h0 ws0 Q K h ws cells slots (mkF K.m pc' Ls st)) : WP l Z EL it n0 own h0 ws0 Q K h ws cells slots (mkF K.m pc Ls (y :: x :: st)) :=
  WP.step (fun _ _ _ P _ k => RoadKit.acmp P.1 C.exec (g := mkF K.m pc Ls (y :: x :: st)) rfl h1 h2 rfl (hb C.bytes hd) rfl hq ho hp k) r
theorem Ok.tswIn (C : Ok l Z a0 EL it n0 own h0 ws0 Q code maxL ret nm rm K) {dflt low high : Int} {offs : Array Int} {len : Nat} {o : Int} {i : Int32} (pc' : Nat) (hd : decode code pc = .ok (.tableswitch dflt low high offs, len)) (hin : ¬ (i.toInt < low ∨ i.toInt > high)) (hoff : offs[(i.toInt - low).toNat]? = some o) (ho : 0 ≤ (pc : Int) + o) (hp : ((pc : Int) + o).toNat = pc') (r : WP l Z EL it n0 own h0 ws0 Q K h ws cells slots (mkF K.m pc' Ls st)) : WP l Z EL it n0 own h0 ws0 Q K h ws cells slots (mkF K.m pc Ls (.int i :: st)) :=
  WP.step (fun _ _ _ P _ k => XS.tswIn P.1.here C.exec rfl rfl (hb C.bytes hd) rfl hin hoff ho hp k) r
theorem Ok.tswOut (C : Ok l Z a0 EL it n0 own h0 ws0 Q code maxL ret nm rm K) {dflt low high : Int} {offs : Array Int} {len : Nat} {i : Int32} (pc' : Nat) (hd : decode code pc = .ok (.tableswitch dflt low high offs, len)) (hout : i.toInt < low ∨ i.toInt > high) (ho : 0 ≤ (pc : Int) + dflt) (hp : ((pc : Int) + dflt).toNat = pc') (r : WP l Z EL it n0 own h0 ws0 Q K h ws cells slots (mkF K.m pc' Ls st)) : WP l Z EL it n0 own h0 ws0 Q K h ws cells slots (mkF K.m pc Ls (.int i :: st)) :=
  WP.step (fun _ _ _ P _ k => XS.tswOut P.1.here C.exec rfl rfl (hb C.bytes hd) rfl hout ho hp k) r
/-! the heap -/
theorem Ok.getF (C : Ok l Z a0 EL it n0 own h0 ws0 Q code maxL ret nm rm K) {R0 O n d host : String} {index : Nat} {a : Nat} {v : Value} (w : (Jvm.Cond.fieldLink own index R0 n d).before a0 Z = true ∨ (Jvm.Cond.fieldLinkNest own index R0 n d host).before a0 Z = true) (via : Via Z R0 O n d) (F : Fld Z h a O n d v) (hd : decode code pc = .ok (.getfield index, 3))
    (r : WP l Z EL it n0 own h0 ws0 Q K h ws cells slots (mkF K.m (pc + 3) Ls (v :: st))) : WP l Z EL it n0 own h0 ws0 Q K h ws cells slots (mkF K.m pc Ls (.ref a :: st)) := by
  intro vm T locs P
  obtain ⟨T', X', e', s'⟩ := RoadKit.getF P.1 C.exec P.2.2.2.1 P.2.2.2.2.1 w via P.2.1 F (g := mkF K.m pc Ls (.ref a :: st)) rfl rfl (hb C.bytes hd)
  exact Goes.of s' (r vm T' locs ⟨X', e', P.2.2⟩)
theorem Ok.getS (C : Ok l Z a0 EL it n0 own h0 ws0 Q code maxL ret nm rm K) {R0 O n d : String} {index : Nat} {v : Value} (w : (Jvm.Cond.fieldLink own index R0 n d).before a0 Z = true) (via : Via Z R0 O n d) (F : Sta Z Z.heap O n d v) (hd : decode code pc = .ok (.getstatic index, 3))
    (r : WP l Z EL it n0 own h0 ws0 Q K h ws cells slots (mkF K.m (pc + 3) Ls (v :: st))) : WP l Z EL it n0 own h0 ws0 Q K h ws cells slots (mkF K.m pc Ls st) := by
  intro vm T locs P
  obtain ⟨T', X', e', s'⟩ := RoadKit.getS (host := "") P.1 C.exec P.2.2.2.1 P.2.2.2.2.1 w via P.2.1 (F.ext P.2.2.2.2.2.2.2.2.1.2) (g := mkF K.m pc Ls st) rfl (hb C.bytes hd)
  exact Goes.of s' (r vm T' locs ⟨X', e', P.2.2⟩)
theorem Ok.castY (C : Ok l Z a0 EL it n0 own h0 ws0 Q code maxL ret nm rm K) {J : String} {index : Nat} {a : Nat} (w : (Jvm.Cond.classLink own index J).before a0 Z = true) (F : Ins Z h a J true) (hd : decode code pc = .ok (.checkcast index, 3))
    (r : WP l Z EL it n0 own h0 ws0 Q K h ws cells slots (mkF K.m (pc + 3) Ls (.ref a :: st))) : WP l Z EL it n0 own h0 ws0 Q K h ws cells slots (mkF K.m pc Ls (.ref a :: st)) := by
  intro vm T locs P
  obtain ⟨T', X', e', s'⟩ := RoadKit.castY P.1 C.exec P.2.2.2.1 P.2.2.2.2.1 w P.2.1 F (g := mkF K.m pc Ls (.ref a :: st)) rfl rfl (hb C.bytes hd)
  exact Goes.of s' (r vm T' locs ⟨X', e', P.2.2⟩)
theorem Ok.instY (C : Ok l Z a0 EL it n0 own h0 ws0 Q code maxL ret nm rm K) {J : String} {index : Nat} {a : Nat} (w : (Jvm.Cond.classLink own index J).before a0 Z = true) (F : Ins Z h a J true) (hd : decode code pc = .ok (.instanceof index, 3))
    (r : WP l Z EL it n0 own h0 ws0 Q K h ws cells slots (mkF K.m (pc + 3) Ls (.int 1 :: st))) : WP l Z EL it n0 own h0 ws0 Q K h ws cells slots (mkF K.m pc Ls (.ref a :: st)) := by
  intro vm T locs P
  obtain ⟨T', X', e', s'⟩ := RoadKit.instY P.1 C.exec P.2.2.2.1 P.2.2.2.2.1 w P.2.1 F (g := mkF K.m pc Ls (.ref a :: st)) rfl rfl (hb C.bytes hd)
  exact Goes.of s' (r vm T' locs ⟨X', e', P.2.2⟩)
theorem keep_ext {h h' : Heap} (E : Ext h h') : Keep h h' [] := (Keep.refl h []).ext E
theorem Ok.new (C : Ok l Z a0 EL it n0 own h0 ws0 Q code maxL ret nm rm K) {J : String} {index n : Nat} (w : (Jvm.Cond.classLink own index J).before a0 Z = true) (wi : (Jvm.Cond.instantiable J n).before a0 Z = true) (wz : (Jvm.Cond.initialized J).before a0 Z = true) (hd : decode code pc = .ok (.new index, 3)) (hc : cells + 1 ≤ rm.cells) (hl : slots + n ≤ rm.slots)
    (r : ∀ (h' : Heap) (a : Nat), @Eq Nat a h.size → h.size < h'.size → n0 ≤ a → Keep h h' [] → Exa Z h' a J → (∀ {O nm d : String} {ty : FieldType}, RoadKit.Laid Z a0 J O nm d → parseFieldDescriptor d = some ty → Fld Z h' a O nm d (defaultValue ty)) → WP l Z EL it n0 own h0 ws0 Q K h' (a :: ws) (cells + 1) (slots + n) (mkF K.m (pc + 3) Ls (.ref a :: st))) :
    WP l Z EL it n0 own h0 ws0 Q K h ws cells slots (mkF K.m pc Ls st) := by
  intro vm T locs P
  obtain ⟨T', h', X', e', E, A, D, -, s'⟩ := newO P.1 C.exec P.2.2.2.1 P.2.2.2.2.1 w wi wz P.2.1 (g := mkF K.m pc Ls st) rfl (hb C.bytes hd) (by rw [C.room]; exact hc) (by rw [C.room]; exact hl)
  exact Goes.of s' (r h' h.size rfl A.lt (P.2.2.2.2.2.2.2.2.1.1 ▸ P.2.2.2.2.2.2.2.2.1.2.1) (keep_ext E) A D vm T' locs (P.new X' e' E A.lt))
theorem Ok.putF (C : Ok l Z a0 EL it n0 own h0 ws0 Q code maxL ret nm rm K) {R0 O n d host J : String} {index kk : Nat} {ty : FieldType} {a : Nat} {v old : Value} (w : (Jvm.Cond.fieldLink own index R0 n d).before a0 Z = true ∨ (Jvm.Cond.fieldLinkNest own index R0 n d host).before a0 Z = true) (via : Via Z R0 O n d) (F : Fld Z h a O n d old) (E : Exa Z h a J)
    (L : (Jvm.Cond.lays J O n d).before a0 Z = true ∨ ((Jvm.Cond.laysFinal J O n d).before a0 Z = true ∧ own = O ∧ nm = "<init>")) (wi : (Jvm.Cond.instantiable J kk).before a0 Z = true) (hty : parseFieldDescriptor d = some ty) (hn : narrow ty v = v) (hf : fits ty v = true) (hd : decode code pc = .ok (.putfield index, 3)) (ha : a ∈ ws)
    (r : ∀ h' : Heap, h'.size = h.size → Keep h h' [a] → Exa Z h' a J → Fld Z h' a O n d v → (∀ {O' n' d' : String} {u : Value}, RoadKit.slotOf Z O' n' d' ≠ RoadKit.slotOf Z O n d → Fld Z h a O' n' d' u → Fld Z h' a O' n' d' u) → WP l Z EL it n0 own h0 ws0 Q K h' ws cells slots (mkF K.m (pc + 3) Ls st)) :
    WP l Z EL it n0 own h0 ws0 Q K h ws cells slots (mkF K.m pc Ls (v :: .ref a :: st)) := by
  intro vm T locs P
  obtain ⟨T', h', X', e', W, s'⟩ := RoadKit.putF P.1 C.exec P.2.2.2.1 P.2.2.2.2.1 w via P.2.1 F E (L.imp id fun q => ⟨q.1, q.2.1, C.named.trans q.2.2⟩) wi hty hn hf (g := mkF K.m pc Ls (v :: .ref a :: st)) rfl rfl (hb C.bytes hd)
  exact Goes.of s' (r h' W.size (Keep.of_wr W) (E.wr W) (F.same W) (fun q G => G.other W (Or.inr q)) vm T' _ (P.wr ha X' e' W))
/-- an array and all that it holds -/
def Ary (Z : State) (h : Heap) (a : Nat) (ty : FieldType) (vs : List Value) : Prop := ∃ c : Cell, RoadKit.Arr Z h a c ty ∧ c.slots.toList = vs ∧ vs.length < 2 ^ 31 ∧ ∀ v ∈ vs, fits ty v = true
theorem Ary.lt {a : Nat} {ty : FieldType} {vs : List Value} (A : Ary Z h a ty vs) : a < h.size := by obtain ⟨c, A, -⟩ := A; exact A.lt
theorem Ary.keep {h' : Heap} {a : Nat} {ty : FieldType} {vs : List Value} {us : List Addr} (A : Ary Z h a ty vs) (Kp : Keep h h' us) (q : a ∉ us) : Ary Z h' a ty vs := by
  obtain ⟨c, A, r⟩ := A; exact ⟨c, ⟨Kp.2.1 a c A.1 q, A.2⟩, r⟩
theorem Ary.len {a : Nat} {ty : FieldType} {vs : List Value} (A : Ary Z h a ty vs) : vs.length < 2 ^ 31 := by obtain ⟨c, -, -, r, -⟩ := A; exact r
theorem Ary.arv {a : Nat} {ty : FieldType} {vs : List Value} {n : Int32} {d : Value} (A : Ary Z h a ty vs) (hn : n.toInt = vs.length) : ∃ k, Arv Z h a k ty n vs d := by
  obtain ⟨c, A, r, q, f⟩ := A
  subst r
  have hz : c.slots.size = n.toNatClampNeg := by
    rw [← Int32.toNat_toInt, hn]; simp
  refine ⟨c.cls, c, A, rfl, hz, fun w => ?_, fun k hk => ?_, fun i hi => ?_⟩
  · rw [Int32.lt_iff_toInt_lt, hn] at w
    have : (0 : Int32).toInt = 0 := rfl
    omega
  · simp [hk]
  · have : c.slots.toList.getD i d = c.slots[i] := by simp [hi]
    rw [this]
    exact f _ (by simp)
theorem Ary.of_arv {a : Nat} {ty : FieldType} {vs : List Value} {n : Int32} {d : Value} {k : ClassId} (A : Arv Z h a k ty n vs d) (hn : n.toNatClampNeg = vs.length) : Ary Z h a ty vs := by
  obtain ⟨c, A, -, r2, r3, H, G⟩ := A
  have e : c.slots.toList = vs := by
    apply List.ext_getElem?
    intro i
    by_cases hi : i < c.slots.size
    · have q := H i hi
      rw [Array.getElem?_toList, q]
      have hi' : i < vs.length := by omega
      simp [hi']
    · rw [List.getElem?_eq_none (by simpa using hi), List.getElem?_eq_none (by omega)]
  refine ⟨c, A, e, ?_, fun v hv => ?_⟩
  · rw [← hn, ← Int32.toNat_toInt]
    have := n.toInt_lt
    omega
  · obtain ⟨i, hi, rfl⟩ := List.getElem_of_mem hv
    have := G i (by omega)
    simpa [hi] using this
theorem Ok.newarr (C : Ok l Z a0 EL it n0 own h0 ws0 Q code maxL ret nm rm K) {aty : ArrayType} {n : Int32} (k cap : Nat) (w : (Jvm.Cond.arrayClass (newarray.typeOf aty)).before a0 Z = true) (hd : decode code pc = .ok (.newarray aty, 2)) (hn : n.toInt = k) (hk' : k ≤ cap) (hb' : cap * 8 ≤ 536870912) (hc : cells + 1 ≤ rm.cells) (hl : slots + cap ≤ rm.slots)
    (r : ∀ (h' : Heap) (a : Nat), @Eq Nat a h.size → h.size < h'.size → n0 ≤ a → Keep h h' [] → Ary Z h' a (newarray.typeOf aty) (List.replicate k (defaultValue (newarray.typeOf aty))) → WP l Z EL it n0 own h0 ws0 Q K h' (a :: ws) (cells + 1) (slots + cap) (mkF K.m (pc + 2) Ls (.ref a :: st))) :
    WP l Z EL it n0 own h0 ws0 Q K h ws cells slots (mkF K.m pc Ls (.int n :: st)) := by
  intro vm T locs P
  have hk : n.toNatClampNeg = k := by rw [← Int32.toNat_toInt, hn]; simp
  obtain ⟨T', h', cA, X', e', E, A, s'⟩ := newP P.1 C.exec P.2.2.2.1 w P.2.1 (g := mkF K.m pc Ls (.int n :: st)) rfl (hb C.bytes hd) rfl (fun q => by rw [Int32.lt_iff_toInt_lt, hn] at q; have : (0 : Int32).toInt = 0 := rfl; omega) (cap := cap) (hk ▸ hk') hb' (by rw [C.room]; exact hc) (by rw [C.room]; exact hl)
  refine Goes.of s' (r h' h.size rfl A.lt (P.2.2.2.2.2.2.2.2.1.1 ▸ P.2.2.2.2.2.2.2.2.1.2.1) (keep_ext E) ⟨_, A, by simp [newA, hk], ?_, fun v hv => ?_⟩ vm T' locs (P.new X' e' E A.lt))
  · simp; omega
  · obtain ⟨-, rfl⟩ := List.mem_replicate.mp hv
    cases aty <;> rfl
theorem Ok.alen (C : Ok l Z a0 EL it n0 own h0 ws0 Q code maxL ret nm rm K) {a : Nat} {ty : FieldType} {vs : List Value} {n : Int32} (A : Ary Z h a ty vs) (hn : n.toInt = vs.length) (hd : decode code pc = .ok (.arraylength, 1)) (r : WP l Z EL it n0 own h0 ws0 Q K h ws cells slots (mkF K.m (pc + 1) Ls (.int n :: st))) : WP l Z EL it n0 own h0 ws0 Q K h ws cells slots (mkF K.m pc Ls (.ref a :: st)) := by
  intro vm T locs P
  obtain ⟨c, A, q, hl, -⟩ := A
  refine Goes.of (fun t k => P.1.arraylength C.exec (by rw [P.2.1]; exact A.1) (State.isArrayOf_alike P.2.2.2.1.alike A.2.1) (g := mkF K.m pc Ls (.ref a :: st)) rfl rfl (hb C.bytes hd) t ?_) (r vm T locs P)
  have e : c.slots.size.toInt32 = n := by
    apply Int32.toInt_inj.mp
    rw [hn, ← q]
    have : c.slots.size < 2 ^ 31 := by rw [← q] at hl; simpa using hl
    simpa using RoadKit.len_toInt this
  rw [e]; exact k
theorem idx_ok {j : Int32} {i n : Nat} (hj : j.toInt = i) (hi : i < n) : ¬ (j < 0 ∨ n ≤ j.toNatClampNeg) ∧ j.toNatClampNeg = i := by
  have e : j.toNatClampNeg = i := by rw [← Int32.toNat_toInt, hj]; simp
  refine ⟨fun q => ?_, e⟩
  rw [e, Int32.lt_iff_toInt_lt, hj] at q
  have : (0 : Int32).toInt = 0 := rfl
  omega
theorem Ok.caload (C : Ok l Z a0 EL it n0 own h0 ws0 Q code maxL ret nm rm K) {a : Addr} {vs : List Value} {j : Int32} {x : Int32} (i : Nat) (A : Ary Z h a .char vs) (hj : j.toInt = i) (hx : vs[i]? = some (.int x)) (hd : decode code pc = .ok (.caload, 1)) (r : WP l Z EL it n0 own h0 ws0 Q K h ws cells slots (mkF K.m (pc + 1) Ls (.int x :: st))) : WP l Z EL it n0 own h0 ws0 Q K h ws cells slots (mkF K.m pc Ls (.int j :: .ref a :: st)) := by
  intro vm T locs P
  obtain ⟨c, A, q, hl, f⟩ := A
  have hs : c.slots.size = vs.length := by rw [← q]; simp
  have hi : i < vs.length := (List.getElem?_eq_some_iff.mp hx).1
  obtain ⟨hin, hji⟩ := idx_ok hj (hs ▸ hi)
  exact Goes.of (fun t k => P.1.caload C.exec (by rw [P.2.1]; exact A.1) (State.isArrayOf_alike P.2.2.2.1.alike A.2.1) A.2.2 hin (v := .int x) (by rw [hji, ← Array.getElem?_toList, q]; exact hx) (g := mkF K.m pc Ls (.int j :: .ref a :: st)) rfl rfl (hb C.bytes hd) t k) (r vm T locs P)
theorem Ok.baload (C : Ok l Z a0 EL it n0 own h0 ws0 Q code maxL ret nm rm K) {a : Addr} {vs : List Value} {j : Int32} {x : Int32} (i : Nat) (A : Ary Z h a .byte vs) (hj : j.toInt = i) (hx : vs[i]? = some (.int x)) (hd : decode code pc = .ok (.baload, 1)) (r : WP l Z EL it n0 own h0 ws0 Q K h ws cells slots (mkF K.m (pc + 1) Ls (.int x :: st))) : WP l Z EL it n0 own h0 ws0 Q K h ws cells slots (mkF K.m pc Ls (.int j :: .ref a :: st)) := by
  intro vm T locs P
  obtain ⟨c, A, q, hl, f⟩ := A
  have hs : c.slots.size = vs.length := by rw [← q]; simp
  have hi : i < vs.length := (List.getElem?_eq_some_iff.mp hx).1
  obtain ⟨hin, hji⟩ := idx_ok hj (hs ▸ hi)
  exact Goes.of (fun t k => P.1.baloadBytes C.exec (by rw [P.2.1]; exact A.1) (State.isArrayOf_alike P.2.2.2.1.alike A.2.1) A.2.2 hin (v := .int x) (by rw [hji, ← Array.getElem?_toList, q]; exact hx) (g := mkF K.m pc Ls (.int j :: .ref a :: st)) rfl rfl (hb C.bytes hd) t k) (r vm T locs P)
theorem Ok.laload (C : Ok l Z a0 EL it n0 own h0 ws0 Q code maxL ret nm rm K) {a : Addr} {vs : List Value} {j : Int32} {x : Int64} (i : Nat) (A : Ary Z h a .long vs) (hj : j.toInt = i) (hx : vs[i]? = some (.long x)) (hd : decode code pc = .ok (.laload, 1)) (r : WP l Z EL it n0 own h0 ws0 Q K h ws cells slots (mkF K.m (pc + 1) Ls (.long x :: st))) : WP l Z EL it n0 own h0 ws0 Q K h ws cells slots (mkF K.m pc Ls (.int j :: .ref a :: st)) := by
  intro vm T locs P
  obtain ⟨c, A, q, hl, f⟩ := A
  have hs : c.slots.size = vs.length := by rw [← q]; simp
  have hi : i < vs.length := (List.getElem?_eq_some_iff.mp hx).1
  obtain ⟨hin, hji⟩ := idx_ok hj (hs ▸ hi)
  exact Goes.of (fun t k => P.1.laload C.exec (by rw [P.2.1]; exact A.1) (State.isArrayOf_alike P.2.2.2.1.alike A.2.1) A.2.2 hin (v := .long x) (by rw [hji, ← Array.getElem?_toList, q]; exact hx) (g := mkF K.m pc Ls (.int j :: .ref a :: st)) rfl rfl (hb C.bytes hd) t k) (r vm T locs P)
theorem Ary.set {a : Nat} {ty : FieldType} {vs : List Value} {c : Cell} {h' : Heap} {i : Nat} {v : Value} (A : RoadKit.Arr Z h a c ty) (q : c.slots.toList = vs) (hl : vs.length < 2 ^ 31) (f : ∀ v ∈ vs, fits ty v = true) (hv : fits ty v = true) (W : Wr h h' a i v) : Ary Z h' a ty (vs.set i v) := by
  refine ⟨_, A.same W, ?_, by simpa using hl, fun u hu => ?_⟩
  · simp [Cell.setSlot, q]
  · rcases List.mem_or_eq_of_mem_set hu with hu | rfl
    · exact f u hu
    · exact hv
theorem nar_char {x : Int32} (h0 : 0 ≤ x.toInt) (h1 : x.toInt < 65536) : nar .char x = x := by
  apply Int32.toInt_inj.mp
  have q := c_i2c x
  show x.toUInt32.toUInt16.toUInt32.toInt32.toInt = _
  omega
theorem i2c_id {x : Int32} (h0 : 0 ≤ x.toInt) (h1 : x.toInt < 65536) : x.toUInt32.toUInt16.toUInt32.toInt32 = x := nar_char h0 h1
theorem Ok.castore (C : Ok l Z a0 EL it n0 own h0 ws0 Q code maxL ret nm rm K) {a : Nat} {vs : List Value} {j x : Int32} (i : Nat) (A : Ary Z h a .char vs) (hj : j.toInt = i) (hi : i < vs.length) (x0 : 0 ≤ x.toInt) (x1 : x.toInt < 65536) (hd : decode code pc = .ok (.castore, 1)) (ha : a ∈ ws)
    (r : ∀ h' : Heap, h'.size = h.size → Keep h h' [a] → Ary Z h' a .char (vs.set i (.int x)) → WP l Z EL it n0 own h0 ws0 Q K h' ws cells slots (mkF K.m (pc + 1) Ls st)) : WP l Z EL it n0 own h0 ws0 Q K h ws cells slots (mkF K.m pc Ls (.int x :: .int j :: .ref a :: st)) := by
  intro vm T locs P
  obtain ⟨c, A, q, hl, f⟩ := A
  have hs : c.slots.size = vs.length := by rw [← q]; simp
  obtain ⟨hin, hji⟩ := idx_ok hj (hs ▸ hi)
  obtain ⟨T', h', X', e', W, s'⟩ := stC P.1 C.exec P.2.2.2.1 P.2.1 A hin (g := mkF K.m pc Ls (.int x :: .int j :: .ref a :: st)) rfl rfl (hb C.bytes hd)
  have W' := W
  rw [hji, nar_char x0 x1] at W
  exact Goes.of s' (r h' W'.size (Keep.of_wr W') (Ary.set A q hl f (by have := fits_nar_char x; rwa [nar_char x0 x1] at this) W) vm T' _ (P.wr ha X' e' W'))
theorem Ok.bastore (C : Ok l Z a0 EL it n0 own h0 ws0 Q code maxL ret nm rm K) {a : Nat} {vs : List Value} {j x : Int32} (i : Nat) (A : Ary Z h a .byte vs) (hj : j.toInt = i) (hi : i < vs.length) (hd : decode code pc = .ok (.bastore, 1)) (ha : a ∈ ws)
    (r : ∀ h' : Heap, h'.size = h.size → Keep h h' [a] → Ary Z h' a .byte (vs.set i (.int x.toInt8.toInt32)) → WP l Z EL it n0 own h0 ws0 Q K h' ws cells slots (mkF K.m (pc + 1) Ls st)) : WP l Z EL it n0 own h0 ws0 Q K h ws cells slots (mkF K.m pc Ls (.int x :: .int j :: .ref a :: st)) := by
  intro vm T locs P
  obtain ⟨c, A, q, hl, f⟩ := A
  have hs : c.slots.size = vs.length := by rw [← q]; simp
  obtain ⟨hin, hji⟩ := idx_ok hj (hs ▸ hi)
  obtain ⟨T', h', X', e', W, s'⟩ := stB P.1 C.exec P.2.2.2.1 P.2.1 A hin (g := mkF K.m pc Ls (.int x :: .int j :: .ref a :: st)) rfl rfl (hb C.bytes hd)
  have W' := W
  rw [hji] at W
  exact Goes.of s' (r h' W'.size (Keep.of_wr W') (Ary.set A q hl f (fits_nar_byte x) W) vm T' _ (P.wr ha X' e' W'))
theorem Ok.lastore (C : Ok l Z a0 EL it n0 own h0 ws0 Q code maxL ret nm rm K) {a : Nat} {vs : List Value} {j : Int32} {x : Int64} (i : Nat) (A : Ary Z h a .long vs) (hj : j.toInt = i) (hi : i < vs.length) (hd : decode code pc = .ok (.lastore, 1)) (ha : a ∈ ws)
    (r : ∀ h' : Heap, h'.size = h.size → Keep h h' [a] → Ary Z h' a .long (vs.set i (.long x)) → WP l Z EL it n0 own h0 ws0 Q K h' ws cells slots (mkF K.m (pc + 1) Ls st)) : WP l Z EL it n0 own h0 ws0 Q K h ws cells slots (mkF K.m pc Ls (.long x :: .int j :: .ref a :: st)) := by
  intro vm T locs P
  obtain ⟨c, A, q, hl, f⟩ := A
  have hs : c.slots.size = vs.length := by rw [← q]; simp
  obtain ⟨hin, hji⟩ := idx_ok hj (hs ▸ hi)
  obtain ⟨T', h', X', e', W, s'⟩ := stJ P.1 C.exec P.2.2.2.1 P.2.1 A hin (g := mkF K.m pc Ls (.long x :: .int j :: .ref a :: st)) rfl rfl (hb C.bytes hd)
  have W' := W
  rw [hji] at W
  exact Goes.of s' (r h' W'.size (Keep.of_wr W') (Ary.set A q hl f rfl W) vm T' _ (P.wr ha X' e' W'))
/-! ends -/
theorem endMore {s t : State} {o : Outcome} {L : List Loc} {k n k' n' : Nat} (R : ReturnedEndW s o t L k n) (hk : k ≤ k') (hn : n ≤ n') : ReturnedEndW s o t L k' n' := ⟨R.1, R.2.1, R.2.2.1, R.2.2.2.mono hk hn⟩
theorem Ok.leave (C : Ok l Z a0 EL it n0 own h0 ws0 Q code maxL ret nm rm K) {v : Option Value} (hv : ret = none → v = none) (hq : Q v h) (hc : cells ≤ rm.cells) (hl : slots ≤ rm.slots)
    (go : ∀ (T : State) (vm : Vm) (locs : List Loc) (fs : List Frame), Stand K.p l K.e K.R (K.s.setVm vm) K.m K.args K.below K.meth K.c T locs cells slots → (∀ (f : JFrame) (acts : List Action), f.method = K.m → f.locked = none → f.entered = [] → (doReturn K.e (T.setTop f) acts v).1 = T.setFrames fs) → Steps K.p.tables K.e K.below (T.setTop g) (T.setFrames fs)) :
    WP l Z EL it n0 own h0 ws0 Q K h ws cells slots g := by
  intro vm T locs P
  obtain ⟨X, eT, ⟨k, hS, hk⟩, hZ, hown, H, N, Kp, O, Ow⟩ := P
  obtain ⟨fs, hr, h1, h2, hR⟩ := X.leaveW hS (by rw [eT]; exact hk) (v := v) (fun q => hv (C.rets.symm.trans q)) C.unlocked
  have eh : (T.setFrames fs).heap = h := eT
  refine ⟨_, _, go T vm locs fs X hr, h1, h2, v, locs, rfl, ⟨by rw [eh]; exact hq, by rw [eh]; exact Kp, N⟩, ?_, endMore hR (by rw [C.room]; exact hc) (by rw [C.room]; exact hl)⟩
  rw [eh]
  show CHx it Z EL K.s.vm h0 T.vm h
  exact H.trans (CHx.still (CHv.at X hZ C.ew H.1) (Wm.of (s0 := K.s.setVm vm) X.warmed))
theorem Ok.return_ (C : Ok l Z a0 EL it n0 own h0 ws0 Q code maxL ret nm rm K) (hr : ret = none) (hd : decode code pc = .ok (.return_, 1)) (hc : cells ≤ rm.cells) (hl : slots ≤ rm.slots) (hq : Q none h) : WP l Z EL it n0 own h0 ws0 Q K h ws cells slots (mkF K.m pc Ls []) :=
  C.leave (v := none) (fun _ => rfl) hq hc hl fun T vm locs fs X hl => X.returnOut C.exec (C.rets.trans hr) (hb C.bytes hd) hl
theorem Ok.ireturn (C : Ok l Z a0 EL it n0 own h0 ws0 Q code maxL ret nm rm K) {t : FieldType} {z : Int32} (hr : ret = some t) (ht : t = .int ∨ t = .boolean ∨ t = .byte ∨ t = .char ∨ t = .short) (hn : narrow t (.int z) = .int z) (hd : decode code pc = .ok (.ireturn, 1)) (hc : cells ≤ rm.cells) (hl : slots ≤ rm.slots) (hq : Q (some (.int z)) h) : WP l Z EL it n0 own h0 ws0 Q K h ws cells slots (mkF K.m pc Ls (.int z :: st)) :=
  C.leave (v := some (.int z)) (fun q => by rw [hr] at q; cases q) hq hc hl fun T vm locs fs X hl => retOut X C.exec (C.rets.trans hr) hn (Or.inl ⟨rfl, ht, z, rfl⟩) (hb C.bytes hd) hl
theorem Ok.areturn (C : Ok l Z a0 EL it n0 own h0 ws0 Q code maxL ret nm rm K) {t : FieldType} {v : Value} (hr : ret = some t) (ht : t.isReference = true) (hv : v.isRef = true) (hd : decode code pc = .ok (.areturn, 1)) (hc : cells ≤ rm.cells) (hl : slots ≤ rm.slots) (hq : Q (some v) h) : WP l Z EL it n0 own h0 ws0 Q K h ws cells slots (mkF K.m pc Ls (v :: st)) :=
  C.leave (v := some v) (fun q => by rw [hr] at q; cases q) hq hc hl fun T vm locs fs X hl => retOut X C.exec (C.rets.trans hr) (by rcases ref_cases hv with rfl | ⟨a, rfl⟩ <;> cases t <;> first | rfl | cases ht) (Or.inr (Or.inr (Or.inr (Or.inr ⟨rfl, ht, hv⟩)))) (hb C.bytes hd) hl
theorem Ok.lreturn (C : Ok l Z a0 EL it n0 own h0 ws0 Q code maxL ret nm rm K) {z : Int64} (hr : ret = some .long) (hd : decode code pc = .ok (.lreturn, 1)) (hc : cells ≤ rm.cells) (hl : slots ≤ rm.slots) (hq : Q (some (.long z)) h) : WP l Z EL it n0 own h0 ws0 Q K h ws cells slots (mkF K.m pc Ls (.long z :: st)) :=
  C.leave (v := some (.long z)) (fun q => by rw [hr] at q; cases q) hq hc hl fun T vm locs fs X hl => retOut X C.exec (C.rets.trans hr) rfl (Or.inr (Or.inl ⟨rfl, rfl, z, rfl⟩)) (hb C.bytes hd) hl
end Rules
end Own
end Jvm.Pilot.@@N@@
namespace Jvm.Pilot.@@N@@
namespace Own
open Jvm Jvm.ClassFile Sem Op Lib Jvm.Free Jvm.Stand Jvm.LawKit Jvm.RoadKit Bundle
section Calls
variable {l : Launch} {Z : State} {a0 : Array Value} {EL : List (String × Nat)} {it : Prop} {n0 : Nat} {own : String} {h0 : Heap} {ws0 : List Addr} {Q : Option Value → Heap → Prop} {code : ByteArray} {maxL : Nat} {ret : Option FieldType} {nm : String} {rm : Room} {K : Ctx} {h : Heap} {ws : List Addr} {cells slots pc : Nat} {Ls : Array Slot} {st stk : List Value} {g g' : JFrame}
theorem Ok.topI (C : Ok l Z a0 EL it n0 own h0 ws0 Q code maxL ret nm rm K) {x y : Int32} (e : x = y) (r : WP l Z EL it n0 own h0 ws0 Q K h ws cells slots (mkF K.m pc Ls (.int y :: st))) : WP l Z EL it n0 own h0 ws0 Q K h ws cells slots (mkF K.m pc Ls (.int x :: st)) := by subst e; exact r
theorem Ok.topJ (C : Ok l Z a0 EL it n0 own h0 ws0 Q code maxL ret nm rm K) {x y : Int64} (e : x = y) (r : WP l Z EL it n0 own h0 ws0 Q K h ws cells slots (mkF K.m pc Ls (.long y :: st))) : WP l Z EL it n0 own h0 ws0 Q K h ws cells slots (mkF K.m pc Ls (.long x :: st)) := by subst e; exact r
theorem Ok.more (C : Ok l Z a0 EL it n0 own h0 ws0 Q code maxL ret nm rm K) {cells' slots' : Nat} (h1 : cells ≤ cells') (h2 : slots ≤ slots') (r : WP l Z EL it n0 own h0 ws0 Q K h ws cells' slots' g) : WP l Z EL it n0 own h0 ws0 Q K h ws cells slots g :=
  fun vm T locs P => r vm T locs ⟨P.1.more h1 h2, P.2⟩
theorem Ok.sub (C : Ok l Z a0 EL it n0 own h0 ws0 Q code maxL ret nm rm K) {ws' : List Addr} (hs : ∀ x ∈ ws', x ∈ ws) (r : WP l Z EL it n0 own h0 ws0 Q K h ws' cells slots g) : WP l Z EL it n0 own h0 ws0 Q K h ws cells slots g :=
  fun vm T locs P => r vm T locs ⟨P.1, P.2.1, P.2.2.1, P.2.2.2.1, P.2.2.2.2.1, P.2.2.2.2.2.1, P.2.2.2.2.2.2.1, P.2.2.2.2.2.2.2.1, P.2.2.2.2.2.2.2.2.1, fun x hx => P.2.2.2.2.2.2.2.2.2 x (hs x hx)⟩
theorem Pos.call {it' : Prop} (hi : it' → it) {vm : Vm} {T U : State} {locs L : List Loc} {ws' : List Addr} {cells' slots' : Nat} (P : Pos l Z EL it n0 own h0 ws0 K h ws cells slots vm T locs) (hsub : ∀ x ∈ ws', x ∈ ws) (X' : Stand K.p l K.e K.R ((K.s.setVm vm).setVm U.vm) K.m K.args K.below K.meth K.c U (locs ++ L) cells' slots')
    (hS' : (K.s.setVm vm).Since U.vm U.heap.size) (hkp : Keep h U.heap ws') (hN : Fr n0 L) (hC : CHx it' Z EL vm h U.vm U.heap) : Pos l Z EL it n0 own h0 ws0 K U.heap ws cells' slots' U.vm U (locs ++ L) := by
  obtain ⟨X, eT, ⟨k, hS, hk⟩, hZ, hown, H, N, Kp, O, Ow⟩ := P
  obtain ⟨y1, y2, y3, y4⟩ := rebS hS hk X' hS' hkp.1 hZ hown
  exact ⟨y1, rfl, ⟨_, y2, Nat.le_refl _⟩, y3, y4, H.trans (hC.mono hi), N.app hN, Kp.trans hkp (fun x hx => (Ow x (hsub x hx)).2.2.2), O.keep hkp (fun x hx => (Ow x (hsub x hx)).1),
    fun x hx => ⟨(Ow x hx).1, Nat.lt_of_lt_of_le (Ow x hx).2.1 hkp.1, hC.safe (Ow x hx).2.1 (Ow x hx).2.2.1, (Ow x hx).2.2.2⟩⟩
theorem Ok.callS (C : Ok l Z a0 EL it n0 own h0 ws0 Q code maxL ret nm rm K) {it' : Prop} {y : MethodName} {index : Nat} {bytes' : ByteArray} {maxL' : Nat} {ret' : Option FieldType} {fr lo cl sl : Nat} {ws' : List Addr} {Q' : Option Value → Heap → Prop} {ps : List FieldType} {rt : Option FieldType} (as : List Value) (st : List Value) (W : Nat)
    (w1 : (Jvm.Cond.methodLink own index y).before a0 Z = true) (w2 : (Jvm.Cond.static y).before a0 Z = true) (w3 : (Jvm.Cond.initialized y.cls).before a0 Z = true) (w4 : (Jvm.Cond.code y bytes' maxL' ret').before a0 Z = true) (hy : y.cls ≠ "java/lang/invoke/MethodHandle" ∧ y.cls ≠ "java/lang/invoke/VarHandle")
    (pd : parseMethodDescriptor y.desc = some ⟨ps, rt⟩) (hlen : as.length = ps.length) (hi : it' → it) (M : Con l Z a0 EL it' n0 y fr lo cl sl as.toArray h ws' Q') (hd : decode code pc = .ok (.invokestatic index, 3)) (hLs : Ls.size = maxL) (hst : stk = as.reverse ++ st) (hW : (st.map fun v => v.category).sum = W)
    (hfr : fr ≤ rm.frames) (hlo : W + lo ≤ rm.locals) (hc : cells + cl ≤ rm.cells) (hs : slots + sl ≤ rm.slots) (hsub : ∀ x ∈ ws', x ∈ ws)
    (r : ∀ (v : Option Value) (h' : Heap), h.size ≤ h'.size → Keep h h' ws' → Q' v h' → WP l Z EL it n0 own h0 ws0 Q K h' ws (cells + cl) (slots + sl) (mkF K.m (pc + 3) Ls (v.toList ++ st))) : WP l Z EL it n0 own h0 ws0 Q K h ws cells slots (mkF K.m pc Ls stk) := by
  intro vm T locs P
  have P0 := P
  obtain ⟨X, eT, ⟨k, hS, hk⟩, hZ, hown, H, N, Kp, O, Ow⟩ := P
  have B := M K.R K.p K.e K.below K.s K.args 3 W vm hZ C.ew H.1 O (fun x hx => ⟨(Ow x (hsub x hx)).1, (Ow x (hsub x hx)).2.1, (Ow x (hsub x hx)).2.2.1⟩) (by rw [C.room]; exact hfr) (by rw [C.room]; exact hlo)
  obtain ⟨v, vm₁, ⟨U, locs', cells', slots'⟩, -, X', hS', hgr, ⟨L, ⟨hq, hkp, hN⟩, e1, e2, e3, hC⟩, hgo⟩ := callSS X C.exec hown (mv hZ w1) (mv hZ w2) (mv hZ w3) (mv hZ w4) hy B (g := mkF K.m pc Ls stk) rfl (hLs.trans C.maxl.symm) (rest := st) (lenOf pd hlen) hst (by rw [hW]; exact Nat.le_of_eq (Nat.zero_add _)) (hb C.bytes hd) (fun vm₁ _ => ⟨rfl, eT, by rw [C.room]; exact hc, by rw [C.room]; exact hs⟩)
  dsimp only [Pt.U, Pt.locs, Pt.cells, Pt.slots] at X' hS' hgr hq hkp e1 e2 e3 hC hgo
  subst e1 e2 e3
  exact Goes.of (fun t k => hgo.trans k) (r v U.heap hkp.1 hkp hq U.vm U _ (P0.call hi hsub X' hS' hkp hN hC))
/-- a call of a static method that interns nothing; what it has made may be written from here on -/
theorem Ok.callSo (C : Ok l Z a0 EL it n0 own h0 ws0 Q code maxL ret nm rm K) {y : MethodName} {index : Nat} {bytes' : ByteArray} {maxL' : Nat} {ret' : Option FieldType} {fr lo cl sl : Nat} {ws' : List Addr} {Q' : Option Value → Heap → Prop} {ps : List FieldType} {rt : Option FieldType} (as : List Value) (st : List Value) (W : Nat)
    (w1 : (Jvm.Cond.methodLink own index y).before a0 Z = true) (w2 : (Jvm.Cond.static y).before a0 Z = true) (w3 : (Jvm.Cond.initialized y.cls).before a0 Z = true) (w4 : (Jvm.Cond.code y bytes' maxL' ret').before a0 Z = true) (hy : y.cls ≠ "java/lang/invoke/MethodHandle" ∧ y.cls ≠ "java/lang/invoke/VarHandle")
    (pd : parseMethodDescriptor y.desc = some ⟨ps, rt⟩) (hlen : as.length = ps.length) (M : Con l Z a0 EL False n0 y fr lo cl sl as.toArray h ws' Q') (hd : decode code pc = .ok (.invokestatic index, 3)) (hLs : Ls.size = maxL) (hst : stk = as.reverse ++ st) (hW : (st.map fun v => v.category).sum = W)
    (hfr : fr ≤ rm.frames) (hlo : W + lo ≤ rm.locals) (hc : cells + cl ≤ rm.cells) (hs : slots + sl ≤ rm.slots) (hsub : ∀ x ∈ ws', x ∈ ws)
    (r : ∀ (v : Option Value) (h' : Heap), h.size ≤ h'.size → Keep h h' ws' → Q' v h' → ∃ os : List Addr, (∀ x ∈ os, h.size ≤ x ∧ x < h'.size) ∧ WP l Z EL it n0 own h0 ws0 Q K h' (os ++ ws) (cells + cl) (slots + sl) (mkF K.m (pc + 3) Ls (v.toList ++ st))) : WP l Z EL it n0 own h0 ws0 Q K h ws cells slots (mkF K.m pc Ls stk) := by
  intro vm T locs P
  have P0 := P
  obtain ⟨X, eT, ⟨k, hS, hk⟩, hZ, hown, H, N, Kp, O, Ow⟩ := P
  have B := M K.R K.p K.e K.below K.s K.args 3 W vm hZ C.ew H.1 O (fun x hx => ⟨(Ow x (hsub x hx)).1, (Ow x (hsub x hx)).2.1, (Ow x (hsub x hx)).2.2.1⟩) (by rw [C.room]; exact hfr) (by rw [C.room]; exact hlo)
  obtain ⟨v, vm₁, ⟨U, locs', cells', slots'⟩, -, X', hS', hgr, ⟨L, ⟨hq, hkp, hN⟩, e1, e2, e3, hC⟩, hgo⟩ := callSS X C.exec hown (mv hZ w1) (mv hZ w2) (mv hZ w3) (mv hZ w4) hy B (g := mkF K.m pc Ls stk) rfl (hLs.trans C.maxl.symm) (rest := st) (lenOf pd hlen) hst (by rw [hW]; exact Nat.le_of_eq (Nat.zero_add _)) (hb C.bytes hd) (fun vm₁ _ => ⟨rfl, eT, by rw [C.room]; exact hc, by rw [C.room]; exact hs⟩)
  dsimp only [Pt.U, Pt.locs, Pt.cells, Pt.slots] at X' hS' hgr hq hkp e1 e2 e3 hC hgo
  subst e1 e2 e3
  obtain ⟨os, hos, r⟩ := r v U.heap hkp.1 hkp hq
  have P1 := P0.call (it' := False) False.elim hsub X' hS' hkp hN hC
  refine Goes.of (fun t k => hgo.trans k) (r U.vm U _ ⟨P1.1, P1.2.1, P1.2.2.1, P1.2.2.2.1, P1.2.2.2.2.1, P1.2.2.2.2.2.1, P1.2.2.2.2.2.2.1, P1.2.2.2.2.2.2.2.1, P1.2.2.2.2.2.2.2.2.1, fun x hx => ?_⟩)
  rcases List.mem_append.mp hx with hx | hx
  · obtain ⟨g1, g2⟩ := hos x hx
    refine ⟨Nat.le_trans (O.1 ▸ O.2.1) g1, g2, fun q => ?_, Or.inr (Nat.le_trans Kp.1 g1)⟩
    rcases hC.2.2.1 x q with q | q
    · obtain ⟨c, hc⟩ := q.there
      exact absurd (Array.getElem?_eq_some_iff.mp hc).1 (Nat.not_lt.mpr g1)
    · exact q.1
  · exact P1.2.2.2.2.2.2.2.2.2 x hx
theorem Ok.callN (C : Ok l Z a0 EL it n0 own h0 ws0 Q code maxL ret nm rm K) {it' : Prop} {y : MethodName} {index : Nat} {bytes' : ByteArray} {maxL' : Nat} {fr lo cl sl : Nat} {ws' : List Addr} {Q' : Option Value → Heap → Prop} {ps : List FieldType} {rt : Option FieldType} (a : Nat) (as : List Value) (st : List Value) (W : Nat)
    (w1 : (Jvm.Cond.methodLink own index y).before a0 Z = true) (w2 : (Jvm.Cond.instanceMethod y).before a0 Z = true) (w4 : (Jvm.Cond.code y bytes' maxL' none).before a0 Z = true) (hy1 : y.name = "<init>") (hy : y.cls ≠ "java/lang/invoke/MethodHandle" ∧ y.cls ≠ "java/lang/invoke/VarHandle")
    (pd : parseMethodDescriptor y.desc = some ⟨ps, rt⟩) (hlen : as.length = ps.length) (hi : it' → it) (M : Con l Z a0 EL it' n0 y fr lo cl sl (Value.ref a :: as).toArray h ws' Q') (hd : decode code pc = .ok (.invokespecial index, 3)) (hLs : Ls.size = maxL) (hst : stk = as.reverse ++ .ref a :: st) (hW : (st.map fun v => v.category).sum = W)
    (hfr : fr ≤ rm.frames) (hlo : W + lo ≤ rm.locals) (hc : cells + cl ≤ rm.cells) (hs : slots + sl ≤ rm.slots) (hsub : ∀ x ∈ ws', x ∈ ws)
    (r : ∀ (v : Option Value) (h' : Heap), h.size ≤ h'.size → Keep h h' ws' → Q' v h' → WP l Z EL it n0 own h0 ws0 Q K h' ws (cells + cl) (slots + sl) (mkF K.m (pc + 3) Ls (v.toList ++ st))) : WP l Z EL it n0 own h0 ws0 Q K h ws cells slots (mkF K.m pc Ls stk) := by
  intro vm T locs P
  have P0 := P
  obtain ⟨X, eT, ⟨k, hS, hk⟩, hZ, hown, H, N, Kp, O, Ow⟩ := P
  have B := M K.R K.p K.e K.below K.s K.args 3 W vm hZ C.ew H.1 O (fun x hx => ⟨(Ow x (hsub x hx)).1, (Ow x (hsub x hx)).2.1, (Ow x (hsub x hx)).2.2.1⟩) (by rw [C.room]; exact hfr) (by rw [C.room]; exact hlo)
  obtain ⟨v, vm₁, ⟨U, locs', cells', slots'⟩, -, X', hS', hgr, ⟨L, ⟨hq, hkp, hN⟩, e1, e2, e3, hC⟩, hgo⟩ := X.specialBackS C.exec hy1 hown (mv hZ w1) (mv hZ w2) (mv hZ w4) hy B (g := mkF K.m pc Ls stk) rfl (hLs.trans C.maxl.symm) (Steps.refl _) (a := a) (rest := st) (lenOf pd hlen) hst (by rw [hW]; exact Nat.le_of_eq (Nat.zero_add _)) (hb C.bytes hd) (fun vm₁ _ => ⟨rfl, eT, by rw [C.room]; exact hc, by rw [C.room]; exact hs⟩)
  dsimp only [Pt.U, Pt.locs, Pt.cells, Pt.slots] at X' hS' hgr hq hkp e1 e2 e3 hC hgo
  subst e1 e2 e3
  exact Goes.of (fun t k => hgo.trans k) (r v U.heap hkp.1 hkp hq U.vm U _ (P0.call hi hsub X' hS' hkp hN hC))
theorem Ok.callV (C : Ok l Z a0 EL it n0 own h0 ws0 Q code maxL ret nm rm K) {it' : Prop} {y : MethodName} {J : String} {index : Nat} {fr lo cl sl : Nat} {ws' : List Addr} {Q' : Option Value → Heap → Prop} {ps : List FieldType} {rt : Option FieldType} (b : Nat) (as : List Value) (st : List Value) (W : Nat)
    (w1 : (Jvm.Cond.methodLink own index y).before a0 Z = true) (w2 : (Jvm.Cond.declares y).before a0 Z = true) (w3 : (Jvm.Cond.selects J y y).before a0 Z = true) (w4 : (Jvm.Cond.instanceMethod y).before a0 Z = true) (hy : y.cls ≠ "java/lang/invoke/MethodHandle" ∧ y.cls ≠ "java/lang/invoke/VarHandle") (hyJ : y.cls = J)
    (E : Exa Z h b J) (pd : parseMethodDescriptor y.desc = some ⟨ps, rt⟩) (hlen : as.length = ps.length) (hi : it' → it) (M : Con l Z a0 EL it' n0 y fr lo cl sl (Value.ref b :: as).toArray h ws' Q') (hd : decode code pc = .ok (.invokevirtual index, 3)) (hLs : Ls.size = maxL) (hst : stk = as.reverse ++ .ref b :: st) (hW : (st.map fun v => v.category).sum = W)
    (hfr : fr ≤ rm.frames) (hlo : W + lo ≤ rm.locals) (hc : cells + cl ≤ rm.cells) (hs : slots + sl ≤ rm.slots) (hsub : ∀ x ∈ ws', x ∈ ws)
    (r : ∀ (v : Option Value) (h' : Heap), h.size ≤ h'.size → Keep h h' ws' → Q' v h' → WP l Z EL it n0 own h0 ws0 Q K h' ws (cells + cl) (slots + sl) (mkF K.m (pc + 3) Ls (v.toList ++ st))) : WP l Z EL it n0 own h0 ws0 Q K h ws cells slots (mkF K.m pc Ls stk) := by
  intro vm T locs P
  have P0 := P
  obtain ⟨X, eT, ⟨k, hS, hk⟩, hZ, hown, H, N, Kp, O, Ow⟩ := P
  have B := M K.R K.p K.e K.below K.s K.args 3 W vm hZ C.ew H.1 O (fun x hx => ⟨(Ow x (hsub x hx)).1, (Ow x (hsub x hx)).2.1, (Ow x (hsub x hx)).2.2.1⟩) (by rw [C.room]; exact hfr) (by rw [C.room]; exact hlo)
  obtain ⟨cB, kB, q1, -, q3⟩ := isOf (s := K.s.setVm vm) hZ eT E
  subst hyJ
  obtain ⟨v, vm₁, ⟨U, locs', cells', slots'⟩, -, X', hS', hgr, ⟨L, ⟨hq, hkp, hN⟩, e1, e2, e3, hC⟩, hgo⟩ := X.virtualBackS C.exec (y := y) (z := y) hown (mv hZ w1) (mv hZ w2) (notFace_of_selects (args := #[]) (mv hZ w3)) (mv hZ w3) (mv hZ w4) hy B q1 q3 (g := mkF K.m pc Ls stk) rfl (hLs.trans C.maxl.symm) (Steps.refl _) (argsL := as) (rest := st) (lenOf pd hlen) hst (by rw [hW]; exact Nat.le_of_eq (Nat.zero_add _)) (hb C.bytes hd) (fun vm₁ _ => ⟨rfl, eT, by rw [C.room]; exact hc, by rw [C.room]; exact hs⟩)
  dsimp only [Pt.U, Pt.locs, Pt.cells, Pt.slots] at X' hS' hgr hq hkp e1 e2 e3 hC hgo
  subst e1 e2 e3
  exact Goes.of (fun t k => hgo.trans k) (r v U.heap hkp.1 hkp hq U.vm U _ (P0.call hi hsub X' hS' hkp hN hC))
theorem Ok.callI (C : Ok l Z a0 EL it n0 own h0 ws0 Q code maxL ret nm rm K) {it' : Prop} {x y : MethodName} {J : String} {index count : Nat} {fr lo cl sl : Nat} {ws' : List Addr} {Q' : Option Value → Heap → Prop} {ps : List FieldType} {rt : Option FieldType} (b : Nat) (as : List Value) (st : List Value) (W : Nat)
    (w1 : (Jvm.Cond.methodLink own index x).before a0 Z = true) (w2 : (Jvm.Cond.declares x).before a0 Z = true) (hk' : ((Jvm.Cond.interfaceMethod x.cls x.cls x.name x.desc).onTables && (Jvm.Cond.interfaceMethod x.cls x.cls x.name x.desc).keepsFace) = true) (w2' : (Jvm.Cond.interfaceMethod x.cls x.cls x.name x.desc).before a0 Z = true) (w3 : (Jvm.Cond.selects J x y).before a0 Z = true) (w4 : (Jvm.Cond.instanceMethod y).before a0 Z = true) (w5 : (Jvm.Cond.publicMethod y).before a0 Z = true) (w6 : (Jvm.Cond.unhidden J x.name x.desc).before a0 Z = true) (w7 : (Jvm.Cond.castable J x.cls).before a0 Z = true) (hy : x.cls ≠ "java/lang/invoke/MethodHandle" ∧ x.cls ≠ "java/lang/invoke/VarHandle")
    (E : Exa Z h b J) (pd : parseMethodDescriptor x.desc = some ⟨ps, rt⟩) (hlen : as.length = ps.length) (hi : it' → it) (M : Con l Z a0 EL it' n0 y fr lo cl sl (Value.ref b :: as).toArray h ws' Q') (hd : decode code pc = .ok (.invokeinterface index count, 5)) (hLs : Ls.size = maxL) (hst : stk = as.reverse ++ .ref b :: st) (hW : (st.map fun v => v.category).sum = W)
    (hfr : fr ≤ rm.frames) (hlo : W + lo ≤ rm.locals) (hc : cells + cl ≤ rm.cells) (hs : slots + sl ≤ rm.slots) (hsub : ∀ x ∈ ws', x ∈ ws)
    (r : ∀ (v : Option Value) (h' : Heap), h.size ≤ h'.size → Keep h h' ws' → Q' v h' → WP l Z EL it n0 own h0 ws0 Q K h' ws (cells + cl) (slots + sl) (mkF K.m (pc + 5) Ls (v.toList ++ st))) : WP l Z EL it n0 own h0 ws0 Q K h ws cells slots (mkF K.m pc Ls stk) := by
  intro vm T locs P
  have P0 := P
  obtain ⟨X, eT, ⟨k, hS, hk⟩, hZ, hown, H, N, Kp, O, Ow⟩ := P
  have B := M K.R K.p K.e K.below K.s K.args 5 W vm hZ C.ew H.1 O (fun x hx => ⟨(Ow x (hsub x hx)).1, (Ow x (hsub x hx)).2.1, (Ow x (hsub x hx)).2.2.1⟩) (by rw [C.room]; exact hfr) (by rw [C.room]; exact hlo)
  obtain ⟨cB, kB, q1, q2, q3⟩ := isOf (s := K.s.setVm vm) hZ eT E
  obtain ⟨v, vm₁, ⟨U, locs', cells', slots'⟩, -, X', hS', hgr, ⟨L, ⟨hq, hkp, hN⟩, e1, e2, e3, hC⟩, hgo⟩ := X.interfaceBackS C.exec (xi := x) (y := y) hown (mv hZ w1) (mv hZ w2) (mv hZ w2' hk') (mv hZ w3) (mv hZ w4) (mv hZ w5) (mv hZ w6) (mv hZ w7) hy B q1 q2 q3 (g := mkF K.m pc Ls stk) rfl (hLs.trans C.maxl.symm) (Steps.refl _) (argsL := as) (rest := st) (lenOf pd hlen) hst (by rw [hW]; exact Nat.le_of_eq (Nat.zero_add _)) (hb C.bytes hd) (fun vm₁ _ => ⟨rfl, eT, by rw [C.room]; exact hc, by rw [C.room]; exact hs⟩)
  dsimp only [Pt.U, Pt.locs, Pt.cells, Pt.slots] at X' hS' hgr hq hkp e1 e2 e3 hC hgo
  subst e1 e2 e3
  exact Goes.of (fun t k => hgo.trans k) (r v U.heap hkp.1 hkp hq U.vm U _ (P0.call hi hsub X' hS' hkp hN hC))
theorem Ok.initO (C : Ok l Z a0 EL it n0 own h0 ws0 Q code maxL ret nm rm K) {index : Nat} {a : Nat} (W : Nat) (w1 : (Jvm.Cond.methodLink own index Lib.objectInit).before a0 Z = true) (w2 : (Jvm.Cond.instanceMethod Lib.objectInit).before a0 Z = true) (w3 : (Jvm.Cond.code Lib.objectInit ⟨#[0xb1]⟩ 1 none).before a0 Z = true) (hd : decode code pc = .ok (.invokespecial index, 3)) (hLs : Ls.size = maxL)
    (hW : (st.map fun v => v.category).sum = W) (hfr : 1 ≤ rm.frames) (hlo : W + 12 ≤ rm.locals) (r : WP l Z EL it n0 own h0 ws0 Q K h ws cells slots (mkF K.m (pc + 3) Ls st)) : WP l Z EL it n0 own h0 ws0 Q K h ws cells slots (mkF K.m pc Ls (.ref a :: st)) := by
  intro vm T locs P
  obtain ⟨T', X', e', s'⟩ := RoadKit.initO P.1 C.exec P.2.2.2.1 P.2.2.2.2.1 w1 w2 w3 P.2.1 (g := mkF K.m pc Ls (.ref a :: st)) rfl (hLs.trans C.maxl.symm) rfl (hb C.bytes hd) (by rw [C.room]; exact hfr) (W := W) (by rw [← hW]; exact Nat.le_of_eq (Nat.zero_add _)) (by rw [C.room]; exact hlo)
  exact Goes.of s' (r vm T' locs ⟨X', e', P.2.2⟩)
/-- ldc of a String constant whose text is read -/
theorem Ok.ldcC (C : Ok l Z a0 EL it n0 own h0 ws0 Q code maxL ret nm rm K) (hit : it) {text : String} {index : Nat} {vs : List Value} {z : Int32} (n : Nat) (w : (Jvm.Cond.stringLink own index text).before a0 Z = true) (wS : ∀ a ∈ Bundle.stringAtoms, a.before a0 Z = true) (hmem : (own, index) ∈ EL)
    (ht : (∀ c ∈ text.toList, c.toNat < 256) ∧ text.toList.map (fun c => Value.int (Jvm.Lit.byteI c.toNat.toUInt16)) = vs) (hz : ¬ z < 0) (hl : z.toNatClampNeg = vs.length) (hn : 4 * text.toList.length ≤ n) (hbig : n ≤ 536870912) (hd : decode code pc = .ok (.ldc index, 2)) (hc : cells + 2 ≤ rm.cells) (hl' : slots + (n + 4) ≤ rm.slots)
    (r : ∀ (h' : Heap) (a b : Nat), h.size ≤ h'.size → Keep h h' [] → a < h'.size → b < h'.size → (∀ x ∈ ws, @Ne Nat x a ∧ @Ne Nat x b) → Exa Z h' a "java/lang/String" → Fld Z h' a "java/lang/String" "coder" "B" (.int 0) → Fld Z h' a "java/lang/String" "value" "[B" (.ref b) → Ary Z h' b .byte vs → WP l Z EL it n0 own h0 ws0 Q K h' ws (cells + 2) (slots + (n + 4)) (mkF K.m (pc + 2) Ls (.ref a :: st))) :
    WP l Z EL it n0 own h0 ws0 Q K h ws cells slots (mkF K.m pc Ls st) := by
  intro vm T locs P
  obtain ⟨X, eT, ⟨k, hS, hk⟩, hZ, hown, H, N, Kp, O, Ow⟩ := P
  obtain ⟨a, T', h', k1, b, kc, X', e', E, hS', hk', hZ', hown', F1, F2, F3, F4, la, lb, hC, -, hne, go⟩ := ldcCH X C.exec hZ hown w wS eT hS hk C.ew hmem H.1 ht hz hl (g := mkF K.m pc Ls st) rfl (hb C.bytes hd) hn hbig (by rw [C.room]; exact hc) (by rw [C.room]; exact hl')
  have Sf : ∀ x ∈ ws, Safe Z EL T'.vm h' x := fun x hx => hC.safe (Ow x hx).2.1 (Ow x hx).2.2.1
  exact Goes.of go (r h' a b E.1 (keep_ext E) la lb (fun x hx => hne x (Sf x hx)) F1 F2 F3 (Ary.of_arv F4 hl) T'.vm T' locs ⟨X', e', ⟨k1, hS', hk'⟩, hZ', hown', H.trans (CHx.of hit hC), N, Kp.ext E, O.ext E, fun x hx => ⟨(Ow x hx).1, Nat.lt_of_lt_of_le (Ow x hx).2.1 E.1, Sf x hx, (Ow x hx).2.2.2⟩⟩)
/-- ldc of a String constant, unread -/
theorem Ok.ldcO (C : Ok l Z a0 EL it n0 own h0 ws0 Q code maxL ret nm rm K) (hit : it) {text : String} {index : Nat} (n : Nat) (w : (Jvm.Cond.stringLink own index text).before a0 Z = true) (wS : ∀ a ∈ Bundle.stringAtoms, a.before a0 Z = true) (hn : 4 * text.toList.length ≤ n) (hbig : n ≤ 536870912) (hd : decode code pc = .ok (.ldc index, 2)) (hc : cells + 2 ≤ rm.cells) (hl' : slots + (n + 4) ≤ rm.slots)
    (r : ∀ (h' : Heap) (a : Nat), h.size ≤ h'.size → Keep h h' [] → WP l Z EL it n0 own h0 ws0 Q K h' ws (cells + 2) (slots + (n + 4)) (mkF K.m (pc + 2) Ls (.ref a :: st))) : WP l Z EL it n0 own h0 ws0 Q K h ws cells slots (mkF K.m pc Ls st) := by
  intro vm T locs P
  obtain ⟨X, eT, ⟨k, hS, hk⟩, hZ, hown, H, N, Kp, O, Ow⟩ := P
  obtain ⟨a, T', h', k1, X', e', E, hS', hk', hZ', hown', hC, -, go⟩ := ldcOH X C.exec hZ hown w wS eT hS hk C.ew H.1 (g := mkF K.m pc Ls st) rfl (hb C.bytes hd) hn hbig (by rw [C.room]; exact hc) (by rw [C.room]; exact hl')
  exact Goes.of go (r h' a E.1 (keep_ext E) T'.vm T' locs ⟨X', e', ⟨k1, hS', hk'⟩, hZ', hown', H.trans (CHx.of hit hC), N, Kp.ext E, O.ext E, fun x hx => ⟨(Ow x hx).1, Nat.lt_of_lt_of_le (Ow x hx).2.1 E.1, hC.safe (Ow x hx).2.1 (Ow x hx).2.2.1, (Ow x hx).2.2.2⟩⟩)
end Calls
section Laws
variable {l : Launch} {Z : State} {a0 : Array Value} {EL : List (String × Nat)} {it : Prop} {n0 : Nat} {Q : Option Value → Heap → Prop} {h : Heap} {ws : List Addr}
/-- from the body to the law -/
theorem Met.of {y : MethodName} {bytes : ByteArray} {maxL : Nat} {ret : Option FieldType} {rm : Room} {cs : List Jvm.Cond} {as : Array Value} {own nm : String} (Ls : Array Slot) (hEL : EW Z a0 EL) (ho : y.cls = own) (hn : y.name = nm) (pn : plainFor y = true) (ef : ∀ m, entryFrame m as maxL = mkF m 0 Ls [])
    (body : ∀ K : Ctx, Ok l Z a0 EL it n0 own h ws Q bytes maxL ret nm rm K → WP l Z EL it n0 own h ws Q K h ws 0 0 (mkF K.m 0 Ls [])) : Met l Z EL it n0 y bytes maxL ret rm cs as h ws Q := by
  subst ho hn
  refine MetFree.of_bodySF pn hisR ?_
  intro p e s m args below meth c s₁ Bd hml hP hK
  obtain ⟨rfl, hZ, hh, H, O, hs⟩ := hP
  subst hh
  have X : Stand p l e rm s m args below meth c s₁ [] 0 0 := Stand.of_body Bd
  have hown : s.vm.findClass y.cls = some m.cls := findClass_of_methodNamed Bd.named
  have eh : s₁.heap = s.heap := by rw [Bd.state]; rfl
  obtain ⟨s₂, o, h1, h2, h3, h4⟩ := body (p, e, rm, s, m, args, below, meth, c) ⟨Bd.exec, hEL, Bd.bytes, hml, Bd.returns, (name_of_methodNamed Bd.named Bd.method).1, Bd.notSynchronized, rfl⟩ s.vm s₁ []
    ⟨X, eh, ⟨s.heap.size, (State.WarmedH.refl s).since _, Nat.le_refl _⟩, hZ, hown, CHx.refl H, Fr.nil _, Keep.refl _ _, O, fun x hx => ⟨(hs x hx).1, (hs x hx).2.1, (hs x hx).2.2, Or.inl hx⟩⟩
  exact ⟨s₂, o, castTop (ef m) h1, h2, h3, h4⟩
/-- from the body's law to a caller's -/
theorem Met.con {y : MethodName} {bytes : ByteArray} {maxL : Nat} {ret : Option FieldType} {rm : Room} {as : Array Value} (M : Met l Z EL it n0 y bytes maxL ret rm [] as h ws Q) (wc : (Jvm.Cond.code y bytes maxL ret).before a0 Z = true) (wz : (Jvm.Cond.initialized y.cls).before a0 Z = true) {fr lo cl sl : Nat} (e1 : rm.frames + 1 = fr) (e2 : maxL + 11 + rm.locals = lo) (e3 : rm.cells = cl) (e4 : rm.slots = sl) :
    Con l Z a0 EL it n0 y fr lo cl sl as h ws Q := by
  subst e1 e2 e3 e4
  intro R p e below s args len W vm0 hZ hEL H O hs hf hl
  exact BackS.of_freeW (bytes := bytes) (maxL := maxL) (ret := ret) (E := fun _ first o t L k n => k = rm.cells ∧ n = rm.slots ∧ (∃ v, o = .returned v ∧ Q v t.heap ∧ Keep h t.heap ws ∧ Fr n0 L) ∧ CHx it Z EL first.vm h t.vm t.heap) M hf (by show W + (maxL + 11) + rm.locals ≤ _; omega)
    (fun m meth c A a Y hp => by
      have hU : Z.Warmed39 A.U.vm := wtrans (s := s.setVm vm0) hZ Y.warmed
      exact ⟨by show (Jvm.Cond.and _ .tt).before a A.U = true; rw [Cond.before_and, mv hU wc]; rfl, mv hU wc, mv hU wz, hp.2.2.1, hp.2.2.2⟩)
    (fun m meth c A a g mk Y hp => by
      have q : CHx it Z EL vm0 h A.U.vm h := CHx.still (CHv.at Y hZ hEL H) (Wm.of (s0 := s.setVm vm0) Y.warmed)
      exact ⟨hp.1, wtrans (s := s.setVm vm0) hZ Y.warmed, hp.2.1, q.1, O, fun x hx => ⟨(hs x hx).1, (hs x hx).2.1, q.safe (hs x hx).2.1 (hs x hx).2.2⟩⟩)
    (fun _ _ _ _ _ _ _ _ _ => trivial)
    (fun _ _ _ _ ⟨v, L, h1, h2, h3, h4⟩ => ⟨L, _, _, h4, rfl, rfl, ⟨v, h1, h2⟩, h3⟩)
    (fun m meth c A a g mk v t L k n Y hp _ _ ⟨e1, e2, ⟨v', e3, e4⟩, e5⟩ => by
      cases e3; subst e1 e2
      exact ⟨L, e4, rfl, rfl, rfl, (CHx.still (CHv.at Y hZ hEL H) (Wm.of (s0 := s.setVm vm0) Y.warmed)).trans e5⟩)
theorem Con.wk {y : MethodName} {fr lo cl sl : Nat} {as : Array Value} {Q' : Option Value → Heap → Prop} (M : Con l Z a0 EL it n0 y fr lo cl sl as h ws Q) (hq : ∀ v h', Keep h h' ws → Q v h' → Q' v h') : Con l Z a0 EL it n0 y fr lo cl sl as h ws Q' := by
  intro R p e below s args len W vm0 hZ hEL H O hs hf hl m meth c A g ig mk a X hg hsize hdg hW hn hp
  obtain ⟨v, B, X', hS, hgr, ⟨L, ⟨q1, q2⟩, q3⟩, hst⟩ := M R p e below s args len W vm0 hZ hEL H O hs hf hl m meth c A g ig mk a X hg hsize hdg hW hn hp
  exact ⟨v, B, X', hS, hgr, ⟨L, ⟨hq _ _ q2.1 q1, q2⟩, q3⟩, hst⟩
end Laws
end Own
end Jvm.Pilot.@@N@@
namespace Jvm.Pilot.@@N@@
namespace Own
open Jvm Jvm.ClassFile Sem Op Lib Jvm.Free Jvm.Stand Jvm.LawKit Jvm.RoadKit Bundle
/-! Strings -/
theorem neA {a b : Nat} (q : @LT.lt Nat _ a b ∨ @LT.lt Nat _ b a) : a ≠ b := fun e => by subst e; exact q.elim (Nat.lt_irrefl _) (Nat.lt_irrefl _)
abbrev ST : String := "java/lang/String"
def lo8 (x : Int32) : Int32 := x.toInt8.toInt32
def hi8 (x : Int32) : Int32 := lo8 (x >>> ((8 : Int32) &&& 31))
def wide : List Int32 → List Value
  | [] => []
  | c :: cs => .int (lo8 c) :: .int (hi8 c) :: wide cs
def Codes (cs : List Int32) (cd : Int32) (vs : List Value) : Prop :=
  (cd = 0 ∧ vs = cs.map (fun c => Value.int (lo8 c)) ∧ ∀ c ∈ cs, 0 ≤ c.toInt ∧ c.toInt < 256) ∨ (cd = 1 ∧ vs = wide cs ∧ (∀ c ∈ cs, 0 ≤ c.toInt ∧ c.toInt < 65536) ∧ ∃ c ∈ cs, 255 < c.toInt)
/-- at x stands a String that spells cs; it and its bytes lie below N -/
def Str (Z : State) (h : Heap) (N : Nat) (x : Nat) (cs : List Int32) : Prop :=
  Exa Z h x ST ∧ x < N ∧ N ≤ h.size ∧ ∃ (t : Nat) (cd : Int32) (vs : List Value), t < N ∧ Fld Z h x ST "value" "[B" (.ref t) ∧ Fld Z h x ST "coder" "B" (.int cd) ∧ Ary Z h t .byte vs ∧ Codes cs cd vs
theorem exaLt {Z : State} {h : Heap} {x : Nat} {C : String} (E : Exa Z h x C) : x < h.size := E.lt
theorem fldLt {Z : State} {h : Heap} {x : Nat} {C n d : String} {v : Value} (E : Fld Z h x C n d v) : x < h.size := E.lt
theorem Str.keep {Z : State} {h h' : Heap} {N : Nat} {x : Nat} {cs : List Int32} {us : List Addr} (S : Str Z h N x cs) (Kp : Keep h h' us) (q : ∀ w ∈ us, N ≤ w) : Str Z h' N x cs := by
  obtain ⟨E, hx, hN, t, cd, vs, ht, F1, F2, A, c⟩ := S
  have nx : ∀ z, z < N → z ∉ us := fun z hz hm => by have := q z hm; omega
  exact ⟨E.keep Kp, hx, Nat.le_trans hN Kp.1, t, cd, vs, ht, F1.keep Kp (nx x hx), F2.keep Kp (nx x hx), A.keep Kp (nx t ht), c⟩
theorem Str.keepO {Z : State} {a0 : Array Value} {h h' : Heap} {N : Nat} {x a k : Nat} {C : String} {cs : List Int32} (S : Str Z h N x cs) (E : Exa Z h a C) (wi : (Jvm.Cond.instantiable C k).before a0 Z = true) (hx : x ≠ a) (Kp : Keep h h' [a]) : Str Z h' N x cs := by
  obtain ⟨Ex, hxN, hN, t, cd, vs, ht, F1, F2, A, c⟩ := S
  have nx : x ∉ [a] := fun q => hx (List.mem_singleton.mp q)
  have nt : t ∉ [a] := fun q => by
    obtain ⟨cc, A1, -⟩ := A
    exact RoadKit.ne_arr E wi A1 (List.mem_singleton.mp q).symm
  exact ⟨Ex.keep Kp, hxN, Nat.le_trans hN Kp.1, t, cd, vs, ht, F1.keep Kp nx, F2.keep Kp nx, A.keep Kp nt, c⟩
theorem Str.exa {Z : State} {h : Heap} {N : Nat} {x : Nat} {cs : List Int32} (S : Str Z h N x cs) : Exa Z h x ST := S.1
theorem Str.lt {Z : State} {h : Heap} {N : Nat} {x : Nat} {cs : List Int32} (S : Str Z h N x cs) : x < N ∧ N ≤ h.size := ⟨S.2.1, S.2.2.1⟩
theorem ord_of {s : State} {args : Array Value} {t : Term} {x : Nat} {C n d : String} {k : Int32} (ev : t.eval args s none [] s = some (.ref x)) (h : (Jvm.Cond.eq (.field t C n d) (.int k)).value args s none s [] = some true) : s.fieldOf? x C n d = some (.int k) := by
  have q := eqv_i (Term.int_eval k) h
  rwa [fld_at ev] at q
/-! numbers -/
theorem and_chr (x : Int32) : 0 ≤ ((x &&& 255).toUInt32.toUInt16.toUInt32.toInt32).toInt ∧ ((x &&& 255).toUInt32.toUInt16.toUInt32.toInt32).toInt < 256 := by
  have q := c_and x 255 (by decide)
  have e : (255 : Int32).toInt = 255 := by decide
  rw [i2c_id (by omega) (by omega)]
  omega
theorem and_pos (x : Int32) : 0 ≤ (x &&& 2147483647).toInt := (c_and x 2147483647 (by decide)).1
theorem rem_pos {x y : Int32} (k : Int) (hx : 0 ≤ x.toInt) (hy : y.toInt = k) (hk : 0 < k) : 0 ≤ (x % y).toInt ∧ (x % y).toInt < k ∧ (x % y).toInt = x.toInt % k := by
  have q := (c_irem x y k hy).1 hx
  have := Int.emod_nonneg x.toInt (show k ≠ 0 by omega)
  have := Int.emod_lt_of_pos x.toInt hk
  omega
theorem Ary.int {Z : State} {h : Heap} {a : Nat} {vs : List Value} {k : Nat} (A : Ary Z h a .byte vs) (hk : k < vs.length) : ∃ x : Int32, vs[k]? = some (.int x) := by
  obtain ⟨c, -, -, -, f⟩ := A
  have q := f vs[k] (List.getElem_mem hk)
  obtain ⟨x, hx⟩ := fit_I q (by simp)
  exact ⟨x, by rw [List.getElem?_eq_getElem hk, hx]⟩
theorem take_eq_succ {α : Type} {vs us : List α} {k : Nat} {x : α} (q : vs.take k = us.take k) (h1 : vs[k]? = some x) (h2 : us[k]? = some x) : vs.take (k + 1) = us.take (k + 1) := by
  rw [List.take_add_one, List.take_add_one, q, h1, h2]
theorem lo8_inj {x y : Int32} (hx : 0 ≤ x.toInt ∧ x.toInt < 256) (hy : 0 ≤ y.toInt ∧ y.toInt < 256) (e : lo8 x = lo8 y) : x = y := by
  have q1 := c_i2b x
  have q2 := c_i2b y
  have e' : x.toInt8.toInt32.toInt = y.toInt8.toInt32.toInt := by rw [show x.toInt8.toInt32 = y.toInt8.toInt32 from e]
  apply Int32.toInt_inj.mp
  omega
theorem map_lo8_inj : ∀ {cs ds : List Int32}, (∀ c ∈ cs, 0 ≤ c.toInt ∧ c.toInt < 256) → (∀ c ∈ ds, 0 ≤ c.toInt ∧ c.toInt < 256) → cs.map (fun c => Value.int (lo8 c)) = ds.map (fun c => Value.int (lo8 c)) → cs = ds
  | [], [], _, _, _ => rfl
  | [], _ :: _, _, _, h => by simp at h
  | _ :: _, [], _, _, h => by simp at h
  | c :: cs, d :: ds, hc, hd, h => by
    simp only [List.map_cons, List.cons.injEq, Value.int.injEq] at h
    rw [lo8_inj (hc c (by simp)) (hd d (by simp)) h.1, map_lo8_inj (fun z hz => hc z (by simp [hz])) (fun z hz => hd z (by simp [hz])) h.2]
/-- all its chars below 256 -/
def Lat (cs : List Int32) : Prop := ∀ c ∈ cs, c.toInt < 256
theorem Codes.lat {cs : List Int32} {cd : Int32} {vs : List Value} (c : Codes cs cd vs) (hl : Lat cs) : cd = 0 ∧ vs = cs.map (fun c => Value.int (lo8 c)) ∧ ∀ c ∈ cs, 0 ≤ c.toInt ∧ c.toInt < 256 := by
  rcases c with c | ⟨-, -, -, c, hc, q⟩
  · exact c
  · have := hl c hc; omega
theorem wide_len (cs : List Int32) : (wide cs).length = 2 * cs.length := by
  induction cs with
  | nil => rfl
  | cons c cs ih => simp [wide, ih]; omega
theorem Codes.cd {cs : List Int32} {cd : Int32} {vs : List Value} (c : Codes cs cd vs) : cd = 0 ∨ cd = 1 := c.imp (·.1) (·.1)
theorem Codes.len {cs : List Int32} {cd : Int32} {vs : List Value} (c : Codes cs cd vs) (hl : vs.length < 2147483648) : (Int32.ofNat vs.length) >>> (cd &&& 31) = Int32.ofNat cs.length := by
  apply Int32.toInt_inj.mp
  have e : (Int32.ofNat vs.length).toInt = vs.length := Int32.toInt_ofNat_small hl
  rcases c with ⟨rfl, rfl, -⟩ | ⟨rfl, rfl, -⟩
  · rw [c_ishr _ 0 0 (by decide), e]
    simp only [List.length_map] at hl ⊢
    rw [Int32.toInt_ofNat_small hl]; simp
  · rw [c_ishr _ 1 1 (by decide), e]
    rw [wide_len] at hl ⊢
    rw [Int32.toInt_ofNat_small (by omega)]; simp
theorem Codes.nil {cs : List Int32} {cd : Int32} {vs : List Value} (c : Codes cs cd vs) : cs = [] ↔ vs.length = 0 := by
  rcases c with ⟨-, rfl, -⟩ | ⟨-, rfl, -⟩
  · simp
  · rw [wide_len, ← List.length_eq_zero_iff]; omega
theorem lcmp_self (x : Int64) : (lcmpW x x).toInt = 0 := (c_lcmp x x).2.1 rfl
theorem shl1 {x : Int32} (h0 : 0 ≤ x.toInt) (h1 : 2 * x.toInt < 2147483648) : (x <<< ((1 : Int32) &&& 31)).toInt = 2 * x.toInt := by
  have q := c_ishl x 1 1 (by decide)
  have r := rng32 (x <<< ((1 : Int32) &&& 31))
  omega
theorem shr0 (x : Int32) : x >>> ((0 : Int32) &&& 31) = x := by
  apply Int32.toInt_inj.mp
  rw [c_ishr x 0 0 (by decide)]; simp
theorem lo8_and (x : Int32) : (lo8 x &&& 255).toInt = x.toInt % 256 := by
  have q := c_i2b x
  have e := c_mask (lo8 x) 255 8 (by decide) (by decide)
  have e2 : (lo8 x).toInt = x.toInt8.toInt32.toInt := rfl
  omega
theorem pair_chr {c : Int32} (h0 : 0 ≤ c.toInt) (h1 : c.toInt < 65536) : (((lo8 c &&& 255) <<< ((0 : Int32) &&& 31)) ||| ((hi8 c &&& 255) <<< ((8 : Int32) &&& 31))).toUInt32.toUInt16.toUInt32.toInt32 = c := by
  have e1 := lo8_and c
  have e2 := lo8_and (c >>> ((8 : Int32) &&& 31))
  have e3 := c_ishr c 8 8 (by decide)
  have e4 := c_ishl (lo8 c &&& 255) 0 0 (by decide)
  have e5 := c_ishl (hi8 c &&& 255) 8 8 (by decide)
  have r4 := rng32 ((lo8 c &&& 255) <<< ((0 : Int32) &&& 31))
  have r5 := rng32 ((hi8 c &&& 255) <<< ((8 : Int32) &&& 31))
  have e6 : (hi8 c &&& 255).toInt = (lo8 (c >>> ((8 : Int32) &&& 31)) &&& 255).toInt := rfl
  have eq : (((lo8 c &&& 255) <<< ((0 : Int32) &&& 31)) ||| ((hi8 c &&& 255) <<< ((8 : Int32) &&& 31))) = c := by
    rw [Int32.or_comm]
    apply Int32.toInt_inj.mp
    have q := c_or ((hi8 c &&& 255) <<< ((8 : Int32) &&& 31)) ((lo8 c &&& 255) <<< ((0 : Int32) &&& 31)) 8 (by decide) 256 (by decide) (by omega) (by omega) (by omega)
    have r := rng32 (((hi8 c &&& 255) <<< ((8 : Int32) &&& 31)) ||| ((lo8 c &&& 255) <<< ((0 : Int32) &&& 31)))
    omega
  rw [eq, i2c_id h0 h1]
theorem wide_get : ∀ {cs : List Int32} {k : Nat} {c : Int32}, cs[k]? = some c → (wide cs)[2 * k]? = some (.int (lo8 c)) ∧ (wide cs)[2 * k + 1]? = some (.int (hi8 c))
  | [], k, c, h => by simp at h
  | d :: cs, 0, c, h => by
    simp at h; subst h; exact ⟨rfl, rfl⟩
  | d :: cs, k + 1, c, h => by
    have q := wide_get (cs := cs) (k := k) (c := c) (by simpa using h)
    have e : 2 * (k + 1) = 2 * k + 1 + 1 := by omega
    rw [e]
    simpa [wide] using q
theorem wide_app (cs ds : List Int32) : wide (cs ++ ds) = wide cs ++ wide ds := by
  induction cs with
  | nil => rfl
  | cons c cs ih => simp [wide, ih]
theorem wide_step {cs : List Int32} {k j : Nat} {c : Int32} (hc : cs[k]? = some c) : ((wide (cs.take k) ++ List.replicate (2 * (j + 1)) (Value.int 0)).set (2 * k) (.int (lo8 c))).set (2 * k + 1) (.int (hi8 c)) = wide (cs.take (k + 1)) ++ List.replicate (2 * j) (.int 0) := by
  have hk : k < cs.length := (List.getElem?_eq_some_iff.mp hc).1
  have e : cs.take (k + 1) = cs.take k ++ [c] := by rw [List.take_add_one, hc]; rfl
  have hl : (wide (cs.take k)).length = 2 * k := by rw [wide_len, List.length_take, Nat.min_eq_left (Nat.le_of_lt hk)]
  rw [e, wide_app, show 2 * (j + 1) = (2 * j + 1) + 1 by omega]
  rw [List.set_append_right _ _ (by omega), hl, List.set_append_right _ _ (by omega), hl]
  simp [List.replicate_succ, wide, show 2 * k + 1 - 2 * k = 1 by omega]
theorem take_all {cs : List Int32} {k : Nat} {c : Int32} {b : Int} (h : ∀ z ∈ cs.take k, z.toInt < b) (hc : cs[k]? = some c) (hb : c.toInt < b) : ∀ z ∈ cs.take (k + 1), z.toInt < b := by
  intro z hz
  rw [List.take_add_one, hc] at hz
  rcases List.mem_append.mp hz with hz | hz
  · exact h z hz
  · cases List.mem_singleton.mp (show z ∈ [c] from hz); exact hb
theorem cfal_eq {cs : List Int32} {cd n : Int32} {vs : List Value} (c : Codes cs cd vs) (hn : n.toInt = cs.length) (h0 : 0 < n.toInt) (hl : vs.length < 2147483648) : (((n - Int32.ofNat vs.length).toUInt32 >>> ((31 : Int32) &&& 31).toUInt32).toInt32).toInt8.toInt32 = cd := by
  have em : (Int32.ofNat vs.length).toInt = vs.length := Int32.toInt_ofNat_small hl
  have e1 := c_isub n (Int32.ofNat vs.length)
  have e2 := c_iushr (n - Int32.ofNat vs.length) 31 31 (by decide) (by decide)
  have r1 := rng32 (n - Int32.ofNat vs.length)
  have e3 := c_i2b ((n - Int32.ofNat vs.length).toUInt32 >>> ((31 : Int32) &&& 31).toUInt32).toInt32
  apply Int32.toInt_inj.mp
  rcases c with ⟨rfl, rfl, -⟩ | ⟨rfl, rfl, -⟩
  · rw [List.length_map] at *
    have k0 : (0 : Int32).toInt = 0 := rfl
    omega
  · rw [wide_len] at *
    have k1 : (1 : Int32).toInt = 1 := rfl
    omega
theorem Codes.wid {cs : List Int32} {cd : Int32} {vs : List Value} (c : Codes cs cd vs) (h : cd = 1) : vs = wide cs ∧ ∀ c ∈ cs, 0 ≤ c.toInt ∧ c.toInt < 65536 := by
  rcases c with c | c
  · rw [c.1] at h; exact absurd h (by decide)
  · exact ⟨c.2.1, c.2.2.1⟩
theorem Codes.lo {cs : List Int32} {cd : Int32} {vs : List Value} (c : Codes cs cd vs) (h : cd = 0) : vs = cs.map (fun c => Value.int (lo8 c)) ∧ ∀ c ∈ cs, 0 ≤ c.toInt ∧ c.toInt < 256 := by
  rcases c with c | c
  · exact ⟨c.2.1, c.2.2⟩
  · rw [c.1] at h; exact absurd h (by decide)
theorem Codes.bnd {cs : List Int32} {cd : Int32} {vs : List Value} (c : Codes cs cd vs) : ∀ c ∈ cs, 0 ≤ c.toInt ∧ c.toInt < 65536 := by
  rcases c with c | c
  · intro z hz
    have := c.2.2 z hz
    omega
  · exact c.2.2.1
theorem sub_int {x y : Int32} (h1 : -2147483648 ≤ x.toInt - y.toInt) (h2 : x.toInt - y.toInt < 2147483648) : (x - y).toInt = x.toInt - y.toInt := by
  have q := c_isub x y
  have r := rng32 (x - y)
  omega
theorem add_int {x y : Int32} (h1 : -2147483648 ≤ x.toInt + y.toInt) (h2 : x.toInt + y.toInt < 2147483648) : (x + y).toInt = x.toInt + y.toInt := by
  have q := c_iadd x y
  have r := rng32 (x + y)
  omega
theorem nchar {x : Int32} (h0 : 0 ≤ x.toInt) (h1 : x.toInt < 65536) : narrow .char (.int x) = .int x := by
  show Value.int (nar .char x) = _
  rw [nar_char h0 h1]
theorem ofNat_int {k : Nat} (h : k < 2147483648) : (Int32.ofNat k).toInt = k := Int32.toInt_ofNat_small h
theorem ofNat_succ (k : Nat) : Int32.ofNat k + (1 : Int32) = Int32.ofNat (k + 1) := by
  rw [show (1 : Int32) = Int32.ofNat 1 from rfl, ← Int32.ofNat_add]
theorem lo8_lo8 (x : Int32) : x.toInt8.toInt32.toInt8.toInt32 = lo8 x := by
  show (x.toInt8.toInt32.toInt8).toInt32 = x.toInt8.toInt32
  rw [Int8.toInt8_toInt32]
theorem fill_step {α β : Type} (f : α → β) (z : β) {cs : List α} {k j : Nat} {c : α} (hc : cs[k]? = some c) : ((cs.take k).map f ++ List.replicate (j + 1) z).set k (f c) = (cs.take (k + 1)).map f ++ List.replicate j z := by
  have hk : k < cs.length := (List.getElem?_eq_some_iff.mp hc).1
  have e : cs.take (k + 1) = cs.take k ++ [c] := by rw [List.take_add_one, hc]; rfl
  rw [e, List.map_append, List.set_append_right _ _ (by simp; omega)]
  simp [List.replicate_succ, Nat.min_eq_left (Nat.le_of_lt hk)]
/-! surrogates -/
abbrev Hi (c : Int32) : Prop := 55296 ≤ c.toInt ∧ c.toInt ≤ 56319
abbrev Lo (c : Int32) : Prop := 56320 ≤ c.toInt ∧ c.toInt ≤ 57343
/-- how many neighbours are a surrogate pair -/
def prs : List Int32 → Nat
  | [] => 0
  | [_] => 0
  | a :: b :: r => (if Hi a ∧ Lo b then 1 else 0) + prs (b :: r)
theorem prs_le : ∀ cs : List Int32, prs cs ≤ cs.length
  | [] => Nat.le_refl _
  | [_] => Nat.zero_le _
  | a :: b :: r => by
    have := prs_le (b :: r)
    simp only [prs, List.length_cons] at *
    split <;> omega
theorem prs_skip {b : Int32} (r : List Int32) (hb : ¬ Hi b) : prs (b :: r) = prs r := by
  cases r with
  | nil => rfl
  | cons c r => simp only [prs]; rw [if_neg (fun q => hb q.1)]; omega
theorem prs_drop_last {cs : List Int32} {k : Nat} (h : cs.length ≤ k + 1) : prs (cs.drop k) = 0 := by
  have hl : (cs.drop k).length ≤ 1 := by simp; omega
  match hd : cs.drop k, hl with
  | [], _ => rfl
  | [_], _ => rfl
theorem drop_two {cs : List Int32} {k : Nat} {c d : Int32} (hc : cs[k]? = some c) (hd : cs[k + 1]? = some d) : cs.drop k = c :: d :: cs.drop (k + 2) := by
  obtain ⟨h1, rfl⟩ := List.getElem?_eq_some_iff.mp hc
  obtain ⟨h2, rfl⟩ := List.getElem?_eq_some_iff.mp hd
  rw [List.drop_eq_getElem_cons h1, List.drop_eq_getElem_cons h2]
theorem prs_no {cs : List Int32} {k : Nat} {c d : Int32} (hc : cs[k]? = some c) (hd : cs[k + 1]? = some d) (hn : ¬ (Hi c ∧ Lo d)) : prs (cs.drop k) = prs (cs.drop (k + 1)) := by
  have e2 : cs.drop (k + 1) = d :: cs.drop (k + 2) := by
    obtain ⟨h2, rfl⟩ := List.getElem?_eq_some_iff.mp hd
    rw [List.drop_eq_getElem_cons h2]
  rw [drop_two hc hd, e2]
  simp only [prs]
  rw [if_neg hn]; omega
theorem prs_yes {cs : List Int32} {k : Nat} {c d : Int32} (hc : cs[k]? = some c) (hd : cs[k + 1]? = some d) (hn : Hi c ∧ Lo d) : prs (cs.drop k) = 1 + prs (cs.drop (k + 2)) := by
  rw [drop_two hc hd]
  simp only [prs]
  rw [if_pos hn, prs_skip _ (fun q => by have := hn.2; omega)]
theorem prs_lat {cs : List Int32} (h : ∀ c ∈ cs, c.toInt < 256) : prs cs = 0 := by
  induction cs with
  | nil => rfl
  | cons a r ih => rw [prs_skip r (fun q => by have := h a (by simp); omega)]; exact ih fun c hc => h c (by simp [hc])
end Own
end Jvm.Pilot.@@N@@
namespace Jvm.Pilot.@@N@@
open Jvm Jvm.ClassFile Sem Op Lib Jvm.Free Jvm.Stand Jvm.LawKit Jvm.RoadKit Bundle Jvm.Pilot.@@N@@.Jvm.D Jvm.Pilot.@@N@@.Own
abbrev EL : List (String × Nat) := []
def Base (Z : State) (a0 : Array Value)  : Prop := (∀ d ∈ tables_1, d.before a0 Z = true) ∧ (∃ zc : Int32, Sta Z Z.heap "java/lang/String" "COMPACT_STRINGS" "Z" (.int zc) ∧ ¬ zc = 0) ∧ (∃ fm : Value, Sta Z Z.heap "jdk/internal/util/Preconditions" "SIOOBE_FORMATTER" "Ljava/util/function/BiFunction;" fm ∧ fm.isRef = true) ∧ Sta Z Z.heap "java/lang/StringUTF16" "$assertionsDisabled" "Z" (.int 1) ∧ Sta Z Z.heap "java/lang/StringUTF16" "HI_BYTE_SHIFT" "I" (.int 0) ∧ Sta Z Z.heap "java/lang/StringUTF16" "LO_BYTE_SHIFT" "I" (.int 8)
variable {l : Launch} {Z : State} {a0 : Array Value} {it : Prop} {n0 : Nat}
theorem ew  (B : Base Z a0) : EW Z a0 EL := EW.nil
theorem d0_0 : decode jdk_52_method_15_code 0 = .ok (.iload_n 1, 1) := by decide +kernel
theorem d0_1 : decode jdk_52_method_15_code 1 = .ok (.aload_n 0, 1) := by decide +kernel
theorem d0_2 : decode jdk_52_method_15_code 2 = .ok (.arraylength, 1) := by decide +kernel
theorem d0_3 : decode jdk_52_method_15_code 3 = .ok (.isub, 1) := by decide +kernel
theorem d0_4 : decode jdk_52_method_15_code 4 = .ok (.bipush 31, 2) := by decide +kernel
theorem d0_6 : decode jdk_52_method_15_code 6 = .ok (.iushr, 1) := by decide +kernel
theorem d0_7 : decode jdk_52_method_15_code 7 = .ok (.i2b, 1) := by decide +kernel
theorem d0_8 : decode jdk_52_method_15_code 8 = .ok (.ireturn, 1) := by decide +kernel
theorem pn_java_lang_StringUTF16 : plainName "java/lang/StringUTF16" = true := by first | (simp [plainName, overriddenIn]; done) | decide +kernel
theorem d1_0 : decode jdk_52_method_21_code 0 = .ok (.iconst 0, 1) := by decide +kernel
theorem d1_1 : decode jdk_52_method_21_code 1 = .ok (.istore 5, 2) := by decide +kernel
theorem d1_3 : decode jdk_52_method_21_code 3 = .ok (.iload 5, 2) := by decide +kernel
theorem d1_5 : decode jdk_52_method_21_code 5 = .ok (.iload 4, 2) := by decide +kernel
theorem d1_7 : decode jdk_52_method_21_code 7 = .ok (.if_icmp .ge 37, 3) := by decide +kernel
theorem d1_44 : decode jdk_52_method_21_code 44 = .ok (.iload 4, 2) := by decide +kernel
theorem d1_46 : decode jdk_52_method_21_code 46 = .ok (.ireturn, 1) := by decide +kernel
theorem d1_10 : decode jdk_52_method_21_code 10 = .ok (.aload_n 0, 1) := by decide +kernel
theorem d1_11 : decode jdk_52_method_21_code 11 = .ok (.iload_n 1, 1) := by decide +kernel
theorem d1_12 : decode jdk_52_method_21_code 12 = .ok (.caload, 1) := by decide +kernel
theorem d1_13 : decode jdk_52_method_21_code 13 = .ok (.istore 6, 2) := by decide +kernel
theorem d1_15 : decode jdk_52_method_21_code 15 = .ok (.iload 6, 2) := by decide +kernel
theorem d1_17 : decode jdk_52_method_21_code 17 = .ok (.sipush 255, 3) := by decide +kernel
theorem d1_20 : decode jdk_52_method_21_code 20 = .ok (.if_icmp .le 6, 3) := by decide +kernel
theorem d1_26 : decode jdk_52_method_21_code 26 = .ok (.aload_n 2, 1) := by decide +kernel
theorem d1_27 : decode jdk_52_method_21_code 27 = .ok (.iload_n 3, 1) := by decide +kernel
theorem d1_28 : decode jdk_52_method_21_code 28 = .ok (.iload 6, 2) := by decide +kernel
theorem d1_30 : decode jdk_52_method_21_code 30 = .ok (.i2b, 1) := by decide +kernel
theorem d1_31 : decode jdk_52_method_21_code 31 = .ok (.bastore, 1) := by decide +kernel
theorem d1_32 : decode jdk_52_method_21_code 32 = .ok (.iinc 1 1, 3) := by decide +kernel
theorem d1_35 : decode jdk_52_method_21_code 35 = .ok (.iinc 3 1, 3) := by decide +kernel
theorem d1_38 : decode jdk_52_method_21_code 38 = .ok (.iinc 5 1, 3) := by decide +kernel
theorem d1_41 : decode jdk_52_method_21_code 41 = .ok (.goto (-38), 3) := by decide +kernel
theorem d1_23 : decode jdk_52_method_21_code 23 = .ok (.iload 5, 2) := by decide +kernel
theorem d1_25 : decode jdk_52_method_21_code 25 = .ok (.ireturn, 1) := by decide +kernel
theorem d2_0 : decode jdk_52_method_3_code 0 = .ok (.iload_n 0, 1) := by decide +kernel
theorem d2_1 : decode jdk_52_method_3_code 1 = .ok (.ifCond .ge 11, 3) := by decide +kernel
theorem d2_12 : decode jdk_52_method_3_code 12 = .ok (.iload_n 0, 1) := by decide +kernel
theorem d2_13 : decode jdk_52_method_3_code 13 = .ok (.ldc 20, 2) := by decide +kernel
theorem d2_15 : decode jdk_52_method_3_code 15 = .ok (.if_icmp .lt 40, 3) := by decide +kernel
theorem d2_55 : decode jdk_52_method_3_code 55 = .ok (.iload_n 0, 1) := by decide +kernel
theorem d2_56 : decode jdk_52_method_3_code 56 = .ok (.iconst 1, 1) := by decide +kernel
theorem d2_57 : decode jdk_52_method_3_code 57 = .ok (.ishl, 1) := by decide +kernel
theorem d2_58 : decode jdk_52_method_3_code 58 = .ok (.ireturn, 1) := by decide +kernel
theorem d3_0 : decode jdk_52_method_2_code 0 = .ok (.iload_n 0, 1) := by decide +kernel
theorem d3_1 : decode jdk_52_method_2_code 1 = .ok (.invokestatic 11, 3) := by decide +kernel
theorem pd__28_I_29_I : parseMethodDescriptor "(I)I" = some ⟨[.int], some .int⟩ := by decide +kernel
theorem d3_4 : decode jdk_52_method_2_code 4 = .ok (.newarray .byte, 2) := by decide +kernel
theorem d3_6 : decode jdk_52_method_2_code 6 = .ok (.areturn, 1) := by decide +kernel
theorem d4_0 : decode jdk_52_method_4_code 0 = .ok (.getstatic 44, 3) := by decide +kernel
theorem d4_3 : decode jdk_52_method_4_code 3 = .ok (.ifCond .ne 25, 3) := by decide +kernel
theorem d4_28 : decode jdk_52_method_4_code 28 = .ok (.iload_n 1, 1) := by decide +kernel
theorem d4_29 : decode jdk_52_method_4_code 29 = .ok (.iconst 1, 1) := by decide +kernel
theorem d4_30 : decode jdk_52_method_4_code 30 = .ok (.ishl, 1) := by decide +kernel
theorem d4_31 : decode jdk_52_method_4_code 31 = .ok (.istore_n 1, 1) := by decide +kernel
theorem d4_32 : decode jdk_52_method_4_code 32 = .ok (.aload_n 0, 1) := by decide +kernel
theorem d4_33 : decode jdk_52_method_4_code 33 = .ok (.iload_n 1, 1) := by decide +kernel
theorem d4_34 : decode jdk_52_method_4_code 34 = .ok (.iinc 1 1, 3) := by decide +kernel
theorem d4_37 : decode jdk_52_method_4_code 37 = .ok (.iload_n 2, 1) := by decide +kernel
theorem d4_38 : decode jdk_52_method_4_code 38 = .ok (.getstatic 59, 3) := by decide +kernel
theorem d4_41 : decode jdk_52_method_4_code 41 = .ok (.ishr, 1) := by decide +kernel
theorem d4_42 : decode jdk_52_method_4_code 42 = .ok (.i2b, 1) := by decide +kernel
theorem d4_43 : decode jdk_52_method_4_code 43 = .ok (.bastore, 1) := by decide +kernel
theorem d4_44 : decode jdk_52_method_4_code 44 = .ok (.aload_n 0, 1) := by decide +kernel
theorem d4_45 : decode jdk_52_method_4_code 45 = .ok (.iload_n 1, 1) := by decide +kernel
theorem d4_46 : decode jdk_52_method_4_code 46 = .ok (.iload_n 2, 1) := by decide +kernel
theorem d4_47 : decode jdk_52_method_4_code 47 = .ok (.getstatic 63, 3) := by decide +kernel
theorem d4_50 : decode jdk_52_method_4_code 50 = .ok (.ishr, 1) := by decide +kernel
theorem d4_51 : decode jdk_52_method_4_code 51 = .ok (.i2b, 1) := by decide +kernel
theorem d4_52 : decode jdk_52_method_4_code 52 = .ok (.bastore, 1) := by decide +kernel
theorem d4_53 : decode jdk_52_method_4_code 53 = .ok (.return_, 1) := by decide +kernel
theorem d5_0 : decode jdk_52_method_5_code 0 = .ok (.getstatic 44, 3) := by decide +kernel
theorem d5_3 : decode jdk_52_method_5_code 3 = .ok (.ifCond .ne 25, 3) := by decide +kernel
theorem d5_28 : decode jdk_52_method_5_code 28 = .ok (.iload_n 1, 1) := by decide +kernel
theorem d5_29 : decode jdk_52_method_5_code 29 = .ok (.iconst 1, 1) := by decide +kernel
theorem d5_30 : decode jdk_52_method_5_code 30 = .ok (.ishl, 1) := by decide +kernel
theorem d5_31 : decode jdk_52_method_5_code 31 = .ok (.istore_n 1, 1) := by decide +kernel
theorem d5_32 : decode jdk_52_method_5_code 32 = .ok (.aload_n 0, 1) := by decide +kernel
theorem d5_33 : decode jdk_52_method_5_code 33 = .ok (.iload_n 1, 1) := by decide +kernel
theorem d5_34 : decode jdk_52_method_5_code 34 = .ok (.iinc 1 1, 3) := by decide +kernel
theorem d5_37 : decode jdk_52_method_5_code 37 = .ok (.baload, 1) := by decide +kernel
theorem d5_38 : decode jdk_52_method_5_code 38 = .ok (.sipush 255, 3) := by decide +kernel
theorem d5_41 : decode jdk_52_method_5_code 41 = .ok (.iand, 1) := by decide +kernel
theorem d5_42 : decode jdk_52_method_5_code 42 = .ok (.getstatic 59, 3) := by decide +kernel
theorem d5_45 : decode jdk_52_method_5_code 45 = .ok (.ishl, 1) := by decide +kernel
theorem d5_46 : decode jdk_52_method_5_code 46 = .ok (.aload_n 0, 1) := by decide +kernel
theorem d5_47 : decode jdk_52_method_5_code 47 = .ok (.iload_n 1, 1) := by decide +kernel
theorem d5_48 : decode jdk_52_method_5_code 48 = .ok (.baload, 1) := by decide +kernel
theorem d5_49 : decode jdk_52_method_5_code 49 = .ok (.sipush 255, 3) := by decide +kernel
theorem d5_52 : decode jdk_52_method_5_code 52 = .ok (.iand, 1) := by decide +kernel
theorem d5_53 : decode jdk_52_method_5_code 53 = .ok (.getstatic 63, 3) := by decide +kernel
theorem d5_56 : decode jdk_52_method_5_code 56 = .ok (.ishl, 1) := by decide +kernel
theorem d5_57 : decode jdk_52_method_5_code 57 = .ok (.ior, 1) := by decide +kernel
theorem d5_58 : decode jdk_52_method_5_code 58 = .ok (.i2c, 1) := by decide +kernel
theorem d5_59 : decode jdk_52_method_5_code 59 = .ok (.ireturn, 1) := by decide +kernel
theorem d6_0 : decode jdk_52_method_14_code 0 = .ok (.iload_n 2, 1) := by decide +kernel
theorem d6_1 : decode jdk_52_method_14_code 1 = .ok (.invokestatic 107, 3) := by decide +kernel
theorem pd__28_I_29__5b_B : parseMethodDescriptor "(I)[B" = some ⟨[.int], some (.array .byte)⟩ := by decide +kernel
theorem d6_4 : decode jdk_52_method_14_code 4 = .ok (.astore_n 3, 1) := by decide +kernel
theorem d6_5 : decode jdk_52_method_14_code 5 = .ok (.iconst 0, 1) := by decide +kernel
theorem d6_6 : decode jdk_52_method_14_code 6 = .ok (.istore 4, 2) := by decide +kernel
theorem d6_8 : decode jdk_52_method_14_code 8 = .ok (.iload 4, 2) := by decide +kernel
theorem d6_10 : decode jdk_52_method_14_code 10 = .ok (.iload_n 2, 1) := by decide +kernel
theorem d6_11 : decode jdk_52_method_14_code 11 = .ok (.if_icmp .ge 21, 3) := by decide +kernel
theorem d6_32 : decode jdk_52_method_14_code 32 = .ok (.aload_n 3, 1) := by decide +kernel
theorem d6_33 : decode jdk_52_method_14_code 33 = .ok (.areturn, 1) := by decide +kernel
theorem d6_14 : decode jdk_52_method_14_code 14 = .ok (.aload_n 3, 1) := by decide +kernel
theorem d6_15 : decode jdk_52_method_14_code 15 = .ok (.iload 4, 2) := by decide +kernel
theorem d6_17 : decode jdk_52_method_14_code 17 = .ok (.aload_n 0, 1) := by decide +kernel
theorem d6_18 : decode jdk_52_method_14_code 18 = .ok (.iload_n 1, 1) := by decide +kernel
theorem d6_19 : decode jdk_52_method_14_code 19 = .ok (.caload, 1) := by decide +kernel
theorem pd__28__5b_BII_29_V : parseMethodDescriptor "([BII)V" = some ⟨[(.array .byte), .int, .int], none⟩ := by decide +kernel
theorem d6_20 : decode jdk_52_method_14_code 20 = .ok (.invokestatic 111, 3) := by decide +kernel
theorem d6_23 : decode jdk_52_method_14_code 23 = .ok (.iinc 1 1, 3) := by decide +kernel
theorem d6_26 : decode jdk_52_method_14_code 26 = .ok (.iinc 4 1, 3) := by decide +kernel
theorem d6_29 : decode jdk_52_method_14_code 29 = .ok (.goto (-21), 3) := by decide +kernel
theorem d7_0 : decode jdk_52_method_16_code 0 = .ok (.iload_n 2, 1) := by decide +kernel
theorem d7_1 : decode jdk_52_method_16_code 1 = .ok (.newarray .byte, 2) := by decide +kernel
theorem d7_3 : decode jdk_52_method_16_code 3 = .ok (.astore_n 3, 1) := by decide +kernel
theorem d7_4 : decode jdk_52_method_16_code 4 = .ok (.aload_n 0, 1) := by decide +kernel
theorem d7_5 : decode jdk_52_method_16_code 5 = .ok (.iload_n 1, 1) := by decide +kernel
theorem d7_6 : decode jdk_52_method_16_code 6 = .ok (.aload_n 3, 1) := by decide +kernel
theorem d7_7 : decode jdk_52_method_16_code 7 = .ok (.iconst 0, 1) := by decide +kernel
theorem d7_8 : decode jdk_52_method_16_code 8 = .ok (.iload_n 2, 1) := by decide +kernel
theorem d7_9 : decode jdk_52_method_16_code 9 = .ok (.invokestatic 115, 3) := by decide +kernel
theorem pd__28__5b_CI_5b_BII_29_I : parseMethodDescriptor "([CI[BII)I" = some ⟨[(.array .char), .int, (.array .byte), .int, .int], some .int⟩ := by decide +kernel
theorem d7_12 : decode jdk_52_method_16_code 12 = .ok (.istore 4, 2) := by decide +kernel
theorem d7_14 : decode jdk_52_method_16_code 14 = .ok (.iload 4, 2) := by decide +kernel
theorem d7_16 : decode jdk_52_method_16_code 16 = .ok (.iload_n 2, 1) := by decide +kernel
theorem d7_17 : decode jdk_52_method_16_code 17 = .ok (.if_icmp .eq 40, 3) := by decide +kernel
theorem d7_57 : decode jdk_52_method_16_code 57 = .ok (.aload_n 3, 1) := by decide +kernel
theorem d7_58 : decode jdk_52_method_16_code 58 = .ok (.areturn, 1) := by decide +kernel
theorem d7_20 : decode jdk_52_method_16_code 20 = .ok (.aload_n 0, 1) := by decide +kernel
theorem d7_21 : decode jdk_52_method_16_code 21 = .ok (.iload_n 1, 1) := by decide +kernel
theorem d7_22 : decode jdk_52_method_16_code 22 = .ok (.iload_n 2, 1) := by decide +kernel
theorem d7_23 : decode jdk_52_method_16_code 23 = .ok (.invokestatic 119, 3) := by decide +kernel
theorem pd__28__5b_CII_29__5b_B : parseMethodDescriptor "([CII)[B" = some ⟨[(.array .char), .int, .int], some (.array .byte)⟩ := by decide +kernel
theorem d7_26 : decode jdk_52_method_16_code 26 = .ok (.astore 5, 2) := by decide +kernel
theorem d7_28 : decode jdk_52_method_16_code 28 = .ok (.aload 5, 2) := by decide +kernel
theorem d7_30 : decode jdk_52_method_16_code 30 = .ok (.iload 4, 2) := by decide +kernel
theorem d7_32 : decode jdk_52_method_16_code 32 = .ok (.invokestatic 71, 3) := by decide +kernel
theorem pd__28__5b_BI_29_C : parseMethodDescriptor "([BI)C" = some ⟨[(.array .byte), .int], some .char⟩ := by decide +kernel
theorem d7_35 : decode jdk_52_method_16_code 35 = .ok (.sipush 255, 3) := by decide +kernel
theorem d7_38 : decode jdk_52_method_16_code 38 = .ok (.if_icmp .gt 16, 3) := by decide +kernel
theorem d7_54 : decode jdk_52_method_16_code 54 = .ok (.aload 5, 2) := by decide +kernel
theorem d7_56 : decode jdk_52_method_16_code 56 = .ok (.areturn, 1) := by decide +kernel
theorem d8_0 : decode jdk_42_method_149_code 0 = .ok (.aload_n 0, 1) := by decide +kernel
theorem d8_1 : decode jdk_42_method_149_code 1 = .ok (.invokespecial 1, 3) := by decide +kernel
theorem d8_4 : decode jdk_42_method_149_code 4 = .ok (.iload_n 3, 1) := by decide +kernel
theorem d8_5 : decode jdk_42_method_149_code 5 = .ok (.ifCond .ne 22, 3) := by decide +kernel
theorem d8_27 : decode jdk_42_method_149_code 27 = .ok (.getstatic 38, 3) := by decide +kernel
theorem d8_30 : decode jdk_42_method_149_code 30 = .ok (.ifCond .eq 28, 3) := by decide +kernel
theorem d8_33 : decode jdk_42_method_149_code 33 = .ok (.aload_n 1, 1) := by decide +kernel
theorem d8_34 : decode jdk_42_method_149_code 34 = .ok (.iload_n 2, 1) := by decide +kernel
theorem d8_35 : decode jdk_42_method_149_code 35 = .ok (.iload_n 3, 1) := by decide +kernel
theorem d8_36 : decode jdk_42_method_149_code 36 = .ok (.invokestatic 177, 3) := by decide +kernel
theorem d8_39 : decode jdk_42_method_149_code 39 = .ok (.astore 5, 2) := by decide +kernel
theorem d8_41 : decode jdk_42_method_149_code 41 = .ok (.aload_n 0, 1) := by decide +kernel
theorem d8_42 : decode jdk_42_method_149_code 42 = .ok (.aload 5, 2) := by decide +kernel
theorem d8_44 : decode jdk_42_method_149_code 44 = .ok (.iload_n 3, 1) := by decide +kernel
theorem d8_45 : decode jdk_42_method_149_code 45 = .ok (.invokestatic 47, 3) := by decide +kernel
theorem pd__28__5b_BI_29_B : parseMethodDescriptor "([BI)B" = some ⟨[(.array .byte), .int], some .byte⟩ := by decide +kernel
theorem d8_48 : decode jdk_42_method_149_code 48 = .ok (.putfield 15, 3) := by decide +kernel
theorem d8_51 : decode jdk_42_method_149_code 51 = .ok (.aload_n 0, 1) := by decide +kernel
theorem d8_52 : decode jdk_42_method_149_code 52 = .ok (.aload 5, 2) := by decide +kernel
theorem d8_54 : decode jdk_42_method_149_code 54 = .ok (.putfield 9, 3) := by decide +kernel
theorem d8_57 : decode jdk_42_method_149_code 57 = .ok (.return_, 1) := by decide +kernel
theorem pn_java_lang_String : plainName "java/lang/String" = true := by first | (simp [plainName, overriddenIn]; done) | decide +kernel
theorem d9_0 : decode jdk_42_method_3_code 0 = .ok (.aload_n 0, 1) := by decide +kernel
theorem d9_1 : decode jdk_42_method_3_code 1 = .ok (.aload_n 1, 1) := by decide +kernel
theorem d9_2 : decode jdk_42_method_3_code 2 = .ok (.iconst 0, 1) := by decide +kernel
theorem d9_3 : decode jdk_42_method_3_code 3 = .ok (.aload_n 1, 1) := by decide +kernel
theorem d9_4 : decode jdk_42_method_3_code 4 = .ok (.arraylength, 1) := by decide +kernel
theorem d9_5 : decode jdk_42_method_3_code 5 = .ok (.aconst_null, 1) := by decide +kernel
theorem d9_6 : decode jdk_42_method_3_code 6 = .ok (.invokespecial 27, 3) := by decide +kernel
theorem pd__28__5b_CIILjava_2f_lang_2f_Void_3b__29_V : parseMethodDescriptor "([CIILjava/lang/Void;)V" = some ⟨[(.array .char), .int, .int, (.object "java/lang/Void")], none⟩ := by decide +kernel
theorem d9_9 : decode jdk_42_method_3_code 9 = .ok (.return_, 1) := by decide +kernel
theorem d10_0 : decode jdk_42_method_154_code 0 = .ok (.getstatic 38, 3) := by decide +kernel
theorem d10_3 : decode jdk_42_method_154_code 3 = .ok (.ifCond .eq 14, 3) := by decide +kernel
theorem d10_6 : decode jdk_42_method_154_code 6 = .ok (.aload_n 0, 1) := by decide +kernel
theorem d10_7 : decode jdk_42_method_154_code 7 = .ok (.getfield 15, 3) := by decide +kernel
theorem d10_10 : decode jdk_42_method_154_code 10 = .ok (.ifCond .ne 7, 3) := by decide +kernel
theorem d10_17 : decode jdk_42_method_154_code 17 = .ok (.iconst 0, 1) := by decide +kernel
theorem d10_18 : decode jdk_42_method_154_code 18 = .ok (.ireturn, 1) := by decide +kernel
theorem d10_13 : decode jdk_42_method_154_code 13 = .ok (.iconst 1, 1) := by decide +kernel
theorem d10_14 : decode jdk_42_method_154_code 14 = .ok (.goto 4, 3) := by decide +kernel
theorem d11_0 : decode jdk_41_method_11_code 0 = .ok (.iload_n 0, 1) := by decide +kernel
theorem d11_1 : decode jdk_41_method_11_code 1 = .ok (.ifCond .lt 8, 3) := by decide +kernel
theorem d11_4 : decode jdk_41_method_11_code 4 = .ok (.iload_n 0, 1) := by decide +kernel
theorem d11_5 : decode jdk_41_method_11_code 5 = .ok (.iload_n 1, 1) := by decide +kernel
theorem d11_6 : decode jdk_41_method_11_code 6 = .ok (.if_icmp .lt 10, 3) := by decide +kernel
theorem d11_16 : decode jdk_41_method_11_code 16 = .ok (.iload_n 0, 1) := by decide +kernel
theorem d11_17 : decode jdk_41_method_11_code 17 = .ok (.ireturn, 1) := by decide +kernel
theorem pn_jdk_internal_util_Preconditions : plainName "jdk/internal/util/Preconditions" = true := by first | (simp [plainName, overriddenIn]; done) | decide +kernel
theorem d12_0 : decode jdk_42_method_155_code 0 = .ok (.iload_n 0, 1) := by decide +kernel
theorem d12_1 : decode jdk_42_method_155_code 1 = .ok (.iload_n 1, 1) := by decide +kernel
theorem d12_2 : decode jdk_42_method_155_code 2 = .ok (.getstatic 1053, 3) := by decide +kernel
theorem pd__28_IILjava_2f_util_2f_function_2f_BiFunction_3b__29_I : parseMethodDescriptor "(IILjava/util/function/BiFunction;)I" = some ⟨[.int, .int, (.object "java/util/function/BiFunction")], some .int⟩ := by decide +kernel
theorem d12_5 : decode jdk_42_method_155_code 5 = .ok (.invokestatic 1059, 3) := by decide +kernel
theorem d12_8 : decode jdk_42_method_155_code 8 = .ok (.pop, 1) := by decide +kernel
theorem d12_9 : decode jdk_42_method_155_code 9 = .ok (.return_, 1) := by decide +kernel
theorem d13_0 : decode jdk_43_method_2_code 0 = .ok (.iload_n 1, 1) := by decide +kernel
theorem d13_1 : decode jdk_43_method_2_code 1 = .ok (.aload_n 0, 1) := by decide +kernel
theorem d13_2 : decode jdk_43_method_2_code 2 = .ok (.arraylength, 1) := by decide +kernel
theorem pd__28_II_29_V : parseMethodDescriptor "(II)V" = some ⟨[.int, .int], none⟩ := by decide +kernel
theorem d13_3 : decode jdk_43_method_2_code 3 = .ok (.invokestatic 9, 3) := by decide +kernel
theorem d13_6 : decode jdk_43_method_2_code 6 = .ok (.aload_n 0, 1) := by decide +kernel
theorem d13_7 : decode jdk_43_method_2_code 7 = .ok (.iload_n 1, 1) := by decide +kernel
theorem d13_8 : decode jdk_43_method_2_code 8 = .ok (.baload, 1) := by decide +kernel
theorem d13_9 : decode jdk_43_method_2_code 9 = .ok (.sipush 255, 3) := by decide +kernel
theorem d13_12 : decode jdk_43_method_2_code 12 = .ok (.iand, 1) := by decide +kernel
theorem d13_13 : decode jdk_43_method_2_code 13 = .ok (.i2c, 1) := by decide +kernel
theorem d13_14 : decode jdk_43_method_2_code 14 = .ok (.ireturn, 1) := by decide +kernel
theorem pn_java_lang_StringLatin1 : plainName "java/lang/StringLatin1" = true := by first | (simp [plainName, overriddenIn]; done) | decide +kernel
theorem d14_0 : decode jdk_52_method_6_code 0 = .ok (.aload_n 0, 1) := by decide +kernel
theorem d14_1 : decode jdk_52_method_6_code 1 = .ok (.arraylength, 1) := by decide +kernel
theorem d14_2 : decode jdk_52_method_6_code 2 = .ok (.iconst 1, 1) := by decide +kernel
theorem d14_3 : decode jdk_52_method_6_code 3 = .ok (.ishr, 1) := by decide +kernel
theorem d14_4 : decode jdk_52_method_6_code 4 = .ok (.ireturn, 1) := by decide +kernel
theorem d15_0 : decode jdk_52_method_91_code 0 = .ok (.iload_n 0, 1) := by decide +kernel
theorem d15_1 : decode jdk_52_method_91_code 1 = .ok (.aload_n 1, 1) := by decide +kernel
theorem d15_2 : decode jdk_52_method_91_code 2 = .ok (.invokestatic 48, 3) := by decide +kernel
theorem pd__28__5b_B_29_I : parseMethodDescriptor "([B)I" = some ⟨[(.array .byte)], some .int⟩ := by decide +kernel
theorem d15_5 : decode jdk_52_method_91_code 5 = .ok (.invokestatic 414, 3) := by decide +kernel
theorem d15_8 : decode jdk_52_method_91_code 8 = .ok (.return_, 1) := by decide +kernel
theorem d16_0 : decode jdk_52_method_83_code 0 = .ok (.iload_n 1, 1) := by decide +kernel
theorem d16_1 : decode jdk_52_method_83_code 1 = .ok (.aload_n 0, 1) := by decide +kernel
theorem d16_2 : decode jdk_52_method_83_code 2 = .ok (.invokestatic 67, 3) := by decide +kernel
theorem pd__28_I_5b_B_29_V : parseMethodDescriptor "(I[B)V" = some ⟨[.int, (.array .byte)], none⟩ := by decide +kernel
theorem d16_5 : decode jdk_52_method_83_code 5 = .ok (.aload_n 0, 1) := by decide +kernel
theorem d16_6 : decode jdk_52_method_83_code 6 = .ok (.iload_n 1, 1) := by decide +kernel
theorem d16_7 : decode jdk_52_method_83_code 7 = .ok (.invokestatic 71, 3) := by decide +kernel
theorem d16_10 : decode jdk_52_method_83_code 10 = .ok (.ireturn, 1) := by decide +kernel
theorem d17_0 : decode jdk_42_method_56_code 0 = .ok (.aload_n 0, 1) := by decide +kernel
theorem d17_1 : decode jdk_42_method_56_code 1 = .ok (.invokevirtual 492, 3) := by decide +kernel
theorem pd__28__29_Z : parseMethodDescriptor "()Z" = some ⟨[], some .boolean⟩ := by decide +kernel
theorem d17_4 : decode jdk_42_method_56_code 4 = .ok (.ifCond .eq 12, 3) := by decide +kernel
theorem d17_16 : decode jdk_42_method_56_code 16 = .ok (.aload_n 0, 1) := by decide +kernel
theorem d17_17 : decode jdk_42_method_56_code 17 = .ok (.getfield 9, 3) := by decide +kernel
theorem d17_20 : decode jdk_42_method_56_code 20 = .ok (.iload_n 1, 1) := by decide +kernel
theorem d17_21 : decode jdk_42_method_56_code 21 = .ok (.invokestatic 498, 3) := by decide +kernel
theorem d17_24 : decode jdk_42_method_56_code 24 = .ok (.ireturn, 1) := by decide +kernel
theorem d17_7 : decode jdk_42_method_56_code 7 = .ok (.aload_n 0, 1) := by decide +kernel
theorem d17_8 : decode jdk_42_method_56_code 8 = .ok (.getfield 9, 3) := by decide +kernel
theorem d17_11 : decode jdk_42_method_56_code 11 = .ok (.iload_n 1, 1) := by decide +kernel
theorem d17_12 : decode jdk_42_method_56_code 12 = .ok (.invokestatic 495, 3) := by decide +kernel
theorem d17_15 : decode jdk_42_method_56_code 15 = .ok (.ireturn, 1) := by decide +kernel
theorem d18_0 : decode jdk_89_method_16_code 0 = .ok (.iload_n 0, 1) := by decide +kernel
theorem d18_1 : decode jdk_89_method_16_code 1 = .ok (.ldc 75, 2) := by decide +kernel
theorem d18_3 : decode jdk_89_method_16_code 3 = .ok (.if_icmp .lt 13, 3) := by decide +kernel
theorem d18_16 : decode jdk_89_method_16_code 16 = .ok (.iconst 0, 1) := by decide +kernel
theorem d18_17 : decode jdk_89_method_16_code 17 = .ok (.ireturn, 1) := by decide +kernel
theorem d18_6 : decode jdk_89_method_16_code 6 = .ok (.iload_n 0, 1) := by decide +kernel
theorem d18_7 : decode jdk_89_method_16_code 7 = .ok (.ldc 77, 2) := by decide +kernel
theorem d18_9 : decode jdk_89_method_16_code 9 = .ok (.if_icmp .ge 7, 3) := by decide +kernel
theorem d18_12 : decode jdk_89_method_16_code 12 = .ok (.iconst 1, 1) := by decide +kernel
theorem d18_13 : decode jdk_89_method_16_code 13 = .ok (.goto 4, 3) := by decide +kernel
theorem pn_java_lang_Character : plainName "java/lang/Character" = true := by first | (simp [plainName, overriddenIn]; done) | decide +kernel
theorem d19_0 : decode prog_23_method_9_code 0 = .ok (.iload_n 0, 1) := by decide +kernel
theorem d19_1 : decode prog_23_method_9_code 1 = .ok (.sipush 128, 3) := by decide +kernel
theorem d19_4 : decode prog_23_method_9_code 4 = .ok (.if_icmp .ge 8, 3) := by decide +kernel
theorem d19_12 : decode prog_23_method_9_code 12 = .ok (.iload_n 0, 1) := by decide +kernel
theorem d19_13 : decode prog_23_method_9_code 13 = .ok (.sipush 2048, 3) := by decide +kernel
theorem d19_16 : decode prog_23_method_9_code 16 = .ok (.if_icmp .lt 10, 3) := by decide +kernel
theorem d19_26 : decode prog_23_method_9_code 26 = .ok (.iconst 2, 1) := by decide +kernel
theorem d19_27 : decode prog_23_method_9_code 27 = .ok (.istore_n 1, 1) := by decide +kernel
theorem d19_28 : decode prog_23_method_9_code 28 = .ok (.goto 5, 3) := by decide +kernel
theorem d19_33 : decode prog_23_method_9_code 33 = .ok (.iload_n 1, 1) := by decide +kernel
theorem d19_34 : decode prog_23_method_9_code 34 = .ok (.ireturn, 1) := by decide +kernel
theorem d19_19 : decode prog_23_method_9_code 19 = .ok (.iload_n 0, 1) := by decide +kernel
theorem d19_20 : decode prog_23_method_9_code 20 = .ok (.invokestatic 65, 3) := by decide +kernel
theorem pd__28_C_29_Z : parseMethodDescriptor "(C)Z" = some ⟨[.char], some .boolean⟩ := by decide +kernel
theorem d19_23 : decode prog_23_method_9_code 23 = .ok (.ifCond .eq 8, 3) := by decide +kernel
theorem d19_31 : decode prog_23_method_9_code 31 = .ok (.iconst 3, 1) := by decide +kernel
theorem d19_32 : decode prog_23_method_9_code 32 = .ok (.istore_n 1, 1) := by decide +kernel
theorem d19_7 : decode prog_23_method_9_code 7 = .ok (.iconst 1, 1) := by decide +kernel
theorem d19_8 : decode prog_23_method_9_code 8 = .ok (.istore_n 1, 1) := by decide +kernel
theorem d19_9 : decode prog_23_method_9_code 9 = .ok (.goto 24, 3) := by decide +kernel
theorem pn_com_example_tranche_tranche_document_SourceLine : plainName "com/example/tranche/tranche/document/SourceLine" = true := by first | (simp [plainName, overriddenIn]; done) | decide +kernel
theorem d20_0 : decode method_2_code 0 = .ok (.iload_n 0, 1) := by decide +kernel
theorem d20_1 : decode method_2_code 1 = .ok (.bipush 127, 2) := by decide +kernel
theorem d20_3 : decode method_2_code 3 = .ok (.if_icmp .gt 5, 3) := by decide +kernel
theorem d20_8 : decode method_2_code 8 = .ok (.iload_n 0, 1) := by decide +kernel
theorem d20_9 : decode method_2_code 9 = .ok (.sipush 2047, 3) := by decide +kernel
theorem d20_12 : decode method_2_code 12 = .ok (.if_icmp .gt 5, 3) := by decide +kernel
theorem d20_17 : decode method_2_code 17 = .ok (.iload_n 0, 1) := by decide +kernel
theorem d20_18 : decode method_2_code 18 = .ok (.ldc 7, 2) := by decide +kernel
theorem d20_20 : decode method_2_code 20 = .ok (.if_icmp .lt 11, 3) := by decide +kernel
theorem d20_31 : decode method_2_code 31 = .ok (.iconst 3, 1) := by decide +kernel
theorem d20_32 : decode method_2_code 32 = .ok (.ireturn, 1) := by decide +kernel
theorem d20_23 : decode method_2_code 23 = .ok (.iload_n 0, 1) := by decide +kernel
theorem d20_24 : decode method_2_code 24 = .ok (.ldc 8, 2) := by decide +kernel
theorem d20_26 : decode method_2_code 26 = .ok (.if_icmp .gt 5, 3) := by decide +kernel
theorem d20_29 : decode method_2_code 29 = .ok (.iconst 2, 1) := by decide +kernel
theorem d20_30 : decode method_2_code 30 = .ok (.ireturn, 1) := by decide +kernel
theorem d20_15 : decode method_2_code 15 = .ok (.iconst 2, 1) := by decide +kernel
theorem d20_16 : decode method_2_code 16 = .ok (.ireturn, 1) := by decide +kernel
theorem d20_6 : decode method_2_code 6 = .ok (.iconst 1, 1) := by decide +kernel
theorem d20_7 : decode method_2_code 7 = .ok (.ireturn, 1) := by decide +kernel
theorem pn_com_example_tranche_tranche_document_SourceLineBytesBetweenPinLaw : plainName "com/example/tranche/tranche/document/SourceLineBytesBetweenPinLaw" = true := by first | (simp [plainName, overriddenIn]; done) | decide +kernel
theorem d21_0 : decode method_3_code 0 = .ok (.iload_n 1, 1) := by decide +kernel
theorem d21_1 : decode method_3_code 1 = .ok (.iload_n 0, 1) := by decide +kernel
theorem d21_2 : decode method_3_code 2 = .ok (.if_icmp .gt 13, 3) := by decide +kernel
theorem d21_15 : decode method_3_code 15 = .ok (.iconst 0, 1) := by decide +kernel
theorem d21_16 : decode method_3_code 16 = .ok (.ireturn, 1) := by decide +kernel
theorem d21_5 : decode method_3_code 5 = .ok (.iload_n 0, 1) := by decide +kernel
theorem d21_6 : decode method_3_code 6 = .ok (.iload_n 2, 1) := by decide +kernel
theorem d21_7 : decode method_3_code 7 = .ok (.if_icmp .ge 8, 3) := by decide +kernel
theorem d21_10 : decode method_3_code 10 = .ok (.iload_n 3, 1) := by decide +kernel
theorem d21_11 : decode method_3_code 11 = .ok (.invokestatic 9, 3) := by decide +kernel
theorem pd__28_C_29_I : parseMethodDescriptor "(C)I" = some ⟨[.char], some .int⟩ := by decide +kernel
theorem d21_14 : decode method_3_code 14 = .ok (.ireturn, 1) := by decide +kernel
theorem d22_0 : decode prog_23_method_1_code 0 = .ok (.aload_n 0, 1) := by decide +kernel
theorem d22_1 : decode prog_23_method_1_code 1 = .ok (.invokespecial 1, 3) := by decide +kernel
theorem d22_4 : decode prog_23_method_1_code 4 = .ok (.aload_n 0, 1) := by decide +kernel
theorem d22_5 : decode prog_23_method_1_code 5 = .ok (.iload_n 1, 1) := by decide +kernel
theorem d22_6 : decode prog_23_method_1_code 6 = .ok (.putfield 7, 3) := by decide +kernel
theorem d22_9 : decode prog_23_method_1_code 9 = .ok (.aload_n 0, 1) := by decide +kernel
theorem d22_10 : decode prog_23_method_1_code 10 = .ok (.aload_n 2, 1) := by decide +kernel
theorem d22_11 : decode prog_23_method_1_code 11 = .ok (.putfield 13, 3) := by decide +kernel
theorem d22_14 : decode prog_23_method_1_code 14 = .ok (.aload_n 0, 1) := by decide +kernel
theorem d22_15 : decode prog_23_method_1_code 15 = .ok (.iload_n 3, 1) := by decide +kernel
theorem d22_16 : decode prog_23_method_1_code 16 = .ok (.putfield 17, 3) := by decide +kernel
theorem d22_19 : decode prog_23_method_1_code 19 = .ok (.aload_n 0, 1) := by decide +kernel
theorem d22_20 : decode prog_23_method_1_code 20 = .ok (.iload 4, 2) := by decide +kernel
theorem d22_22 : decode prog_23_method_1_code 22 = .ok (.putfield 20, 3) := by decide +kernel
theorem d22_25 : decode prog_23_method_1_code 25 = .ok (.return_, 1) := by decide +kernel
theorem d23_0 : decode prog_23_method_8_code 0 = .ok (.iconst 0, 1) := by decide +kernel
theorem d23_1 : decode prog_23_method_8_code 1 = .ok (.istore_n 3, 1) := by decide +kernel
theorem d23_2 : decode prog_23_method_8_code 2 = .ok (.iload_n 1, 1) := by decide +kernel
theorem d23_3 : decode prog_23_method_8_code 3 = .ok (.istore 4, 2) := by decide +kernel
theorem d23_5 : decode prog_23_method_8_code 5 = .ok (.iload 4, 2) := by decide +kernel
theorem d23_7 : decode prog_23_method_8_code 7 = .ok (.iload_n 2, 1) := by decide +kernel
theorem d23_8 : decode prog_23_method_8_code 8 = .ok (.if_icmp .ge 24, 3) := by decide +kernel
theorem d23_32 : decode prog_23_method_8_code 32 = .ok (.iload_n 3, 1) := by decide +kernel
theorem d23_33 : decode prog_23_method_8_code 33 = .ok (.ireturn, 1) := by decide +kernel
theorem d23_11 : decode prog_23_method_8_code 11 = .ok (.iload_n 3, 1) := by decide +kernel
theorem d23_12 : decode prog_23_method_8_code 12 = .ok (.aload_n 0, 1) := by decide +kernel
theorem d23_13 : decode prog_23_method_8_code 13 = .ok (.getfield 13, 3) := by decide +kernel
theorem d23_16 : decode prog_23_method_8_code 16 = .ok (.iload 4, 2) := by decide +kernel
theorem d23_18 : decode prog_23_method_8_code 18 = .ok (.invokevirtual 42, 3) := by decide +kernel
theorem pd__28_I_29_C : parseMethodDescriptor "(I)C" = some ⟨[.int], some .char⟩ := by decide +kernel
theorem d23_21 : decode prog_23_method_8_code 21 = .ok (.invokestatic 61, 3) := by decide +kernel
theorem d23_24 : decode prog_23_method_8_code 24 = .ok (.iadd, 1) := by decide +kernel
theorem d23_25 : decode prog_23_method_8_code 25 = .ok (.istore_n 3, 1) := by decide +kernel
theorem d23_26 : decode prog_23_method_8_code 26 = .ok (.iinc 4 1, 3) := by decide +kernel
theorem d23_29 : decode prog_23_method_8_code 29 = .ok (.goto (-24), 3) := by decide +kernel
theorem pd__28__5b_C_29_V : parseMethodDescriptor "([C)V" = some ⟨[(.array .char)], none⟩ := by decide +kernel
theorem pd__28_ILjava_2f_lang_2f_String_3b_II_29_V : parseMethodDescriptor "(ILjava/lang/String;II)V" = some ⟨[.int, (.object "java/lang/String"), .int, .int], none⟩ := by decide +kernel
theorem pd__28_II_29_I : parseMethodDescriptor "(II)I" = some ⟨[.int, .int], some .int⟩ := by decide +kernel
theorem pd__28_IIIC_29_I : parseMethodDescriptor "(IIIC)I" = some ⟨[.int, .int, .int, .char], some .int⟩ := by decide +kernel
set_option maxRecDepth 65536 in
set_option maxHeartbeats 40000000 in
theorem c_cfal  (B : Base Z a0) {h : Heap} {d : Nat} {n cd : Int32} {cs : List Int32} {vs : List Value} (Ad : Ary Z h d .byte vs) (cod : Codes cs cd vs) (hn : n.toInt = cs.length) (h0 : 0 < n.toInt) : Con l Z a0 EL it n0 (⟨"java/lang/StringUTF16", "coderFromArrayLen", "([BI)B"⟩ : MethodName) 1 13 0 0 #[.ref d, .int n] h [] (fun v h' => v = some (.int cd) ∧ h = h') := by
  refine Met.con (bytes := jdk_52_method_15_code) (maxL := 2) (ret := (some .byte)) (rm := ({ frames := 0, cells := 0, slots := 0, locals := 0 } : Room)) (Met.of (own := "java/lang/StringUTF16") (nm := "coderFromArrayLen") #[.val (.ref d), .val (.int n)] (ew B) rfl rfl (plainFor_of_name pn_java_lang_StringUTF16) (fun m => by first | (simp [entryFrame, mkF, argsToLocals, Value.category]; done) | rfl) fun K C => ?_) (B.1 _ (List.mem_of_getElem? (i := 25) rfl)) (B.1 _ (List.mem_of_getElem? (i := 17) rfl)) rfl rfl rfl rfl
  have lA := Ad.len
  have em : (Int32.ofNat vs.length).toInt = vs.length := ofNat_int lA
  refine C.iloadN d0_0 rfl ?_
  refine C.aloadN d0_1 rfl rfl ?_
  refine C.alen (n := (Int32.ofNat vs.length)) Ad em d0_2 ?_
  refine C.isub d0_3 ?_
  refine C.bipush (v := (31 : Int32)) d0_4 (by first | rfl | decide) ?_
  refine C.iushr d0_6 ?_
  refine C.i2b d0_7 ?_
  refine C.topI (show ((n - (Int32.ofNat vs.length)).toUInt32 >>> ((31 : Int32) &&& 31).toUInt32).toInt32.toInt8.toInt32 = cd by exact cfal_eq cod hn h0 lA) ?_
  exact C.ireturn (t := .byte) rfl (by simp) (by rcases cod.cd with rfl | rfl <;> rfl) d0_8 (by decide) (by decide) ⟨rfl, rfl⟩
set_option maxRecDepth 65536 in
set_option maxHeartbeats 40000000 in
theorem c_cmp5  (B : Base Z a0) {h : Heap} {b d : Nat} {n : Int32} {cs : List Int32} (Ab : Ary Z h b .char (cs.map Value.int)) (Ad : Ary Z h d .byte (List.replicate cs.length (.int 0))) (nbd : b ≠ d) (hn : n.toInt = cs.length) (hp : (∀ c ∈ cs, 0 ≤ c.toInt ∧ c.toInt < 65536)) : Con l Z a0 EL it n0 (⟨"java/lang/StringUTF16", "compress", "([CI[BII)I"⟩ : MethodName) 1 18 0 0 #[.ref b, .int (0 : Int32), .ref d, .int (0 : Int32), .int n] h [d] (fun v h' => (v = some (.int n) ∧ (∀ c ∈ cs, c.toInt < 256) ∧ Ary Z h' d .byte (cs.map fun c => Value.int (lo8 c))) ∨ ∃ (k : Nat) (c : Int32), v = some (.int (Int32.ofNat k)) ∧ cs[k]? = some c ∧ 255 < c.toInt) := by
  refine Met.con (bytes := jdk_52_method_21_code) (maxL := 7) (ret := (some .int)) (rm := ({ frames := 0, cells := 0, slots := 0, locals := 0 } : Room)) (Met.of (own := "java/lang/StringUTF16") (nm := "compress") #[.val (.ref b), .val (.int (0 : Int32)), .val (.ref d), .val (.int (0 : Int32)), .val (.int n), .unset, .unset] (ew B) rfl rfl (plainFor_of_name pn_java_lang_StringUTF16) (fun m => by first | (simp [entryFrame, mkF, argsToLocals, Value.category]; done) | rfl) fun K C => ?_) (B.1 _ (List.mem_of_getElem? (i := 22) rfl)) (B.1 _ (List.mem_of_getElem? (i := 17) rfl)) rfl rfl rfl rfl
  have hlen := Ab.len
  rw [List.length_map] at hlen
  have k255 : (255 : Int32).toInt = 255 := by decide
  refine C.iconst (v := (0 : Int32)) d1_0 (by first | rfl | decide) ?_
  refine C.istore #[.val (.ref b), .val (.int (0 : Int32)), .val (.ref d), .val (.int (0 : Int32)), .val (.int n), .val (.int (0 : Int32)), .unset] d1_1 rfl ?_
  suffices LOOP : ∀ (j k : Nat) (h1 : Heap) (s6 : Slot), j + k = cs.length → One s6 → (∀ c ∈ cs.take k, c.toInt < 256) → Ary Z h1 b .char (cs.map Value.int) → Ary Z h1 d .byte ((cs.take k).map (fun c => Value.int (lo8 c)) ++ List.replicate j (.int 0)) → C.W h1 [d] 0 0 (mkF K.m 3 #[.val (.ref b), .val (.int (Int32.ofNat k)), .val (.ref d), .val (.int (Int32.ofNat k)), .val (.int n), .val (.int (Int32.ofNat k)), s6] []) from LOOP cs.length 0 h .unset (by omega) One.u (by simp) Ab Ad
  intro j
  induction j with
  | zero =>
    intro k h1 s6 hjk h6 hlt Ab Ad
    have ek : (Int32.ofNat k).toInt = k := ofNat_int (by omega)
    refine C.iload d1_3 rfl ?_
    refine C.iload d1_5 rfl ?_
    refine C.icmp_ge 44 d1_7 (by decide) (by decide) (fun q1 => ?_) (fun q1 => ?_)
    · refine C.iload d1_44 rfl ?_
      have ek2 : cs.take k = cs := List.take_of_length_le (by omega)
      rw [ek2] at Ad hlt
      exact C.ireturn (t := .int) rfl (by simp) rfl d1_46 (by decide) (by decide) (Or.inl ⟨rfl, hlt, by simpa using Ad⟩)
    · exfalso; omega
  | succ j ih =>
    intro k h1 s6 hjk h6 hlt Ab Ad
    have ek : (Int32.ofNat k).toInt = k := ofNat_int (by omega)
    refine C.iload d1_3 rfl ?_
    refine C.iload d1_5 rfl ?_
    refine C.icmp_ge 44 d1_7 (by decide) (by decide) (fun q2 => ?_) (fun q2 => ?_)
    · exfalso; omega
    · obtain ⟨c, hc⟩ : ∃ c, cs[k]? = some c := ⟨_, List.getElem?_eq_getElem (by omega)⟩
      have hcb := hp c (List.mem_of_getElem? hc)
      refine C.aloadN d1_10 rfl rfl ?_
      refine C.iloadN d1_11 rfl ?_
      refine C.caload (x := c) k Ab ek (by simp [hc]) d1_12 ?_
      refine C.istore #[.val (.ref b), .val (.int (Int32.ofNat k)), .val (.ref d), .val (.int (Int32.ofNat k)), .val (.int n), .val (.int (Int32.ofNat k)), .val (.int c)] d1_13 (XS.store1 rfl h6 rfl) ?_
      refine C.iload d1_15 rfl ?_
      refine C.sipush (v := (255 : Int32)) d1_17 (by first | rfl | decide) ?_
      refine C.icmp_le 26 d1_20 (by decide) (by decide) (fun q3 => ?_) (fun q3 => ?_)
      · refine C.aloadN d1_26 rfl rfl ?_
        refine C.iloadN d1_27 rfl ?_
        refine C.iload d1_28 rfl ?_
        refine C.i2b d1_30 ?_
        refine C.bastore k Ad ek (by simp; omega) d1_31 (List.mem_of_getElem? (i := 0) rfl) fun h4 z4 K4 Aw4 => ?_
        show C.W h4 [d] 0 0 (mkF K.m 32 #[.val (.ref b), .val (.int (Int32.ofNat k)), .val (.ref d), .val (.int (Int32.ofNat k)), .val (.int n), .val (.int (Int32.ofNat k)), .val (.int c)] [])
        have A4' : Ary Z h4 d .byte ((cs.take (k + 1)).map (fun c => Value.int (lo8 c)) ++ List.replicate j (.int 0)) := by
          rw [lo8_lo8] at Aw4
          rwa [← fill_step (fun c => Value.int (lo8 c)) (.int 0) hc]
        refine C.iinc (z := (1 : Int32)) #[.val (.ref b), .val (.int ((Int32.ofNat k) + (1 : Int32))), .val (.ref d), .val (.int (Int32.ofNat k)), .val (.int n), .val (.int (Int32.ofNat k)), .val (.int c)] d1_32 rfl (by first | rfl | decide) rfl ?_
        refine C.iinc (z := (1 : Int32)) #[.val (.ref b), .val (.int ((Int32.ofNat k) + (1 : Int32))), .val (.ref d), .val (.int ((Int32.ofNat k) + (1 : Int32))), .val (.int n), .val (.int (Int32.ofNat k)), .val (.int c)] d1_35 rfl (by first | rfl | decide) rfl ?_
        refine C.iinc (z := (1 : Int32)) #[.val (.ref b), .val (.int ((Int32.ofNat k) + (1 : Int32))), .val (.ref d), .val (.int ((Int32.ofNat k) + (1 : Int32))), .val (.int n), .val (.int ((Int32.ofNat k) + (1 : Int32))), .val (.int c)] d1_38 rfl (by first | rfl | decide) rfl ?_
        refine C.goto 3 d1_41 (by decide) (by decide) ?_
        rw [ofNat_succ]
        exact ih (k + 1) h4 _ (by omega) (One.val rfl) (take_all hlt hc (by omega)) (Ab.keep K4 (ninS nbd nin0)) A4'
      · refine C.iload d1_23 rfl ?_
        exact C.ireturn (t := .int) rfl (by simp) rfl d1_25 (by decide) (by decide) (Or.inr ⟨k, c, rfl, hc, by omega⟩)
set_option maxRecDepth 65536 in
set_option maxHeartbeats 40000000 in
theorem c_nbl  (B : Base Z a0) {h : Heap} {n : Int32} (hn : 0 ≤ n.toInt ∧ n.toInt ≤ 4000) : Con l Z a0 EL it n0 (⟨"java/lang/StringUTF16", "newBytesLength", "(I)I"⟩ : MethodName) 1 12 0 0 #[.int n] h [] (fun v h' => ∃ m : Int32, v = some (.int m) ∧ m.toInt = 2 * n.toInt ∧ h = h') := by
  refine Met.con (bytes := jdk_52_method_3_code) (maxL := 1) (ret := (some .int)) (rm := ({ frames := 0, cells := 0, slots := 0, locals := 0 } : Room)) (Met.of (own := "java/lang/StringUTF16") (nm := "newBytesLength") #[.val (.int n)] (ew B) rfl rfl (plainFor_of_name pn_java_lang_StringUTF16) (fun m => by first | (simp [entryFrame, mkF, argsToLocals, Value.category]; done) | rfl) fun K C => ?_) (B.1 _ (List.mem_of_getElem? (i := 63) rfl)) (B.1 _ (List.mem_of_getElem? (i := 17) rfl)) rfl rfl rfl rfl
  have kM : (1073741823 : Int32).toInt = 1073741823 := by decide
  refine C.iloadN d2_0 rfl ?_
  refine C.ifc_ge 12 d2_1 (by decide) (by decide) (fun q1 => ?_) (fun q1 => ?_)
  · refine C.iloadN d2_12 rfl ?_
    refine C.ldcInt (v := (1073741823 : Int32)) (B.1 _ (List.mem_of_getElem? (i := 64) rfl)) d2_13 ?_
    refine C.icmp_lt 55 d2_15 (by decide) (by decide) (fun q2 => ?_) (fun q2 => ?_)
    · refine C.iloadN d2_55 rfl ?_
      refine C.iconst (v := (1 : Int32)) d2_56 (by first | rfl | decide) ?_
      refine C.ishl d2_57 ?_
      exact C.ireturn (t := .int) rfl (by simp) rfl d2_58 (by decide) (by decide) ⟨_, rfl, shl1 (by omega) (by omega), rfl⟩
    · exfalso; omega
  · exfalso; omega
set_option maxRecDepth 65536 in
set_option maxHeartbeats 40000000 in
theorem c_nbf  (B : Base Z a0) {h : Heap} {n : Int32} {k : Nat} (hn : n.toInt = k) (hk : k ≤ 4) : Con l Z a0 EL it n0 (⟨"java/lang/StringUTF16", "newBytesFor", "(I)[B"⟩ : MethodName) 2 24 1 8 #[.int n] h [] (fun v h' => ∃ d : Nat, v = some (.ref d) ∧ h.size ≤ d ∧ d < h'.size ∧ n0 ≤ d ∧ Ary Z h' d .byte (List.replicate (2 * k) (.int 0))) := by
  refine Met.con (bytes := jdk_52_method_2_code) (maxL := 1) (ret := (some (.array .byte))) (rm := ({ frames := 1, cells := 1, slots := 8, locals := 12 } : Room)) (Met.of (own := "java/lang/StringUTF16") (nm := "newBytesFor") #[.val (.int n)] (ew B) rfl rfl (plainFor_of_name pn_java_lang_StringUTF16) (fun m => by first | (simp [entryFrame, mkF, argsToLocals, Value.category]; done) | rfl) fun K C => ?_) (B.1 _ (List.mem_of_getElem? (i := 60) rfl)) (B.1 _ (List.mem_of_getElem? (i := 17) rfl)) rfl rfl rfl rfl
  refine C.iloadN d3_0 rfl ?_
  refine C.callS [.int n] [] 0 (B.1 _ (List.mem_of_getElem? (i := 61) rfl)) (B.1 _ (List.mem_of_getElem? (i := 62) rfl)) (B.1 _ (List.mem_of_getElem? (i := 17) rfl)) (B.1 _ (List.mem_of_getElem? (i := 63) rfl)) (by decide) pd__28_I_29_I rfl id (c_nbl B (n := n) (by omega)) d3_1 rfl rfl rfl (by decide) (by decide) (by decide) (by decide) all0 fun v1 h1 z1 K1 q1 => ?_
  obtain ⟨m, rfl, hm, rfl⟩ := q1
  show C.W h [] 0 0 (mkF K.m 4 #[.val (.int n)] [.int m])
  refine C.newarr (2 * k) 8 (B.1 _ (List.mem_of_getElem? (i := 19) rfl)) d3_4 (by omega) (by omega) (by decide) (by decide) (by decide) fun h2 a3 g2 z2 o2 K2 An2 => ?_
  show C.W h2 [a3] 1 8 (mkF K.m 6 #[.val (.int n)] [.ref a3])
  exact C.areturn rfl rfl rfl d3_6 (by decide) (by decide) ⟨a3, rfl, by omega, by omega, o2, An2⟩
set_option maxRecDepth 65536 in
set_option maxHeartbeats 40000000 in
theorem c_putChar  (B : Base Z a0) {h : Heap} {d k : Nat} {i c : Int32} {vs : List Value} (Ad : Ary Z h d .byte vs) (hi : i.toInt = k) (hk : 2 * k + 1 < vs.length) : Con l Z a0 EL it n0 (⟨"java/lang/StringUTF16", "putChar", "([BII)V"⟩ : MethodName) 1 14 0 0 #[.ref d, .int i, .int c] h [d] (fun v h' => v = none ∧ Ary Z h' d .byte ((vs.set (2 * k) (.int (lo8 c))).set (2 * k + 1) (.int (hi8 c)))) := by
  refine Met.con (bytes := jdk_52_method_4_code) (maxL := 3) (ret := none) (rm := ({ frames := 0, cells := 0, slots := 0, locals := 0 } : Room)) (Met.of (own := "java/lang/StringUTF16") (nm := "putChar") #[.val (.ref d), .val (.int i), .val (.int c)] (ew B) rfl rfl (plainFor_of_name pn_java_lang_StringUTF16) (fun m => by first | (simp [entryFrame, mkF, argsToLocals, Value.category]; done) | rfl) fun K C => ?_) (B.1 _ (List.mem_of_getElem? (i := 67) rfl)) (B.1 _ (List.mem_of_getElem? (i := 17) rfl)) rfl rfl rfl rfl
  have lA := Ad.len
  have k1 : (1 : Int32).toInt = 1 := rfl
  have e2 := shl1 (x := i) (by omega) (by omega)
  have e3 : ((i <<< ((1 : Int32) &&& 31)) + (1 : Int32)).toInt = 2 * k + 1 := by rw [add_int (by omega) (by omega)]; omega
  refine C.getS (B.1 _ (List.mem_of_getElem? (i := 68) rfl)) Via.refl B.2.2.2.1 d4_0 ?_
  refine C.ifc_ne 28 d4_3 (by decide) (by decide) (fun q1 => ?_) (fun q1 => ?_)
  · refine C.iloadN d4_28 rfl ?_
    refine C.iconst (v := (1 : Int32)) d4_29 (by first | rfl | decide) ?_
    refine C.ishl d4_30 ?_
    refine C.istoreN #[.val (.ref d), .val (.int (i <<< ((1 : Int32) &&& 31))), .val (.int c)] d4_31 rfl ?_
    refine C.aloadN d4_32 rfl rfl ?_
    refine C.iloadN d4_33 rfl ?_
    refine C.iinc (z := (1 : Int32)) #[.val (.ref d), .val (.int ((i <<< ((1 : Int32) &&& 31)) + (1 : Int32))), .val (.int c)] d4_34 rfl (by first | rfl | decide) rfl ?_
    refine C.iloadN d4_37 rfl ?_
    refine C.getS (B.1 _ (List.mem_of_getElem? (i := 69) rfl)) Via.refl B.2.2.2.2.1 d4_38 ?_
    refine C.ishr d4_41 ?_
    refine C.topI (show (c >>> ((0 : Int32) &&& 31)) = c by exact shr0 c) ?_
    refine C.i2b d4_42 ?_
    refine C.bastore (2 * k) Ad (by omega) (by omega) d4_43 (List.mem_of_getElem? (i := 0) rfl) fun h2 z2 K2 Aw2 => ?_
    show C.W h2 [d] 0 0 (mkF K.m 44 #[.val (.ref d), .val (.int ((i <<< ((1 : Int32) &&& 31)) + (1 : Int32))), .val (.int c)] [])
    rw [lo8_lo8] at Aw2
    refine C.aloadN d4_44 rfl rfl ?_
    refine C.iloadN d4_45 rfl ?_
    refine C.iloadN d4_46 rfl ?_
    refine C.getS (B.1 _ (List.mem_of_getElem? (i := 70) rfl)) Via.refl B.2.2.2.2.2 d4_47 ?_
    refine C.ishr d4_50 ?_
    refine C.i2b d4_51 ?_
    refine C.bastore (2 * k + 1) Aw2 (by omega) (by simp; omega) d4_52 (List.mem_of_getElem? (i := 0) rfl) fun h3 z3 K3 Aw3 => ?_
    show C.W h3 [d] 0 0 (mkF K.m 53 #[.val (.ref d), .val (.int ((i <<< ((1 : Int32) &&& 31)) + (1 : Int32))), .val (.int c)] [])
    rw [lo8_lo8] at Aw3
    exact C.return_ rfl d4_53 (by decide) (by decide) ⟨rfl, Aw3⟩
  · exfalso; revert q1; decide
set_option maxRecDepth 65536 in
set_option maxHeartbeats 40000000 in
theorem c_getChar  (B : Base Z a0) {h : Heap} {d k : Nat} {i c : Int32} {cs : List Int32} (Ad : Ary Z h d .byte (wide cs)) (hi : i.toInt = k) (hc : cs[k]? = some c) (hb : 0 ≤ c.toInt ∧ c.toInt < 65536) : Con l Z a0 EL it n0 (⟨"java/lang/StringUTF16", "getChar", "([BI)C"⟩ : MethodName) 1 13 0 0 #[.ref d, .int i] h [] (fun v h' => v = some (.int c) ∧ h = h') := by
  refine Met.con (bytes := jdk_52_method_5_code) (maxL := 2) (ret := (some .char)) (rm := ({ frames := 0, cells := 0, slots := 0, locals := 0 } : Room)) (Met.of (own := "java/lang/StringUTF16") (nm := "getChar") #[.val (.ref d), .val (.int i)] (ew B) rfl rfl (plainFor_of_name pn_java_lang_StringUTF16) (fun m => by first | (simp [entryFrame, mkF, argsToLocals, Value.category]; done) | rfl) fun K C => ?_) (B.1 _ (List.mem_of_getElem? (i := 73) rfl)) (B.1 _ (List.mem_of_getElem? (i := 17) rfl)) rfl rfl rfl rfl
  have lA := Ad.len
  rw [wide_len] at lA
  have hk : k < cs.length := (List.getElem?_eq_some_iff.mp hc).1
  obtain ⟨g1, g2⟩ := wide_get hc
  have k1 : (1 : Int32).toInt = 1 := rfl
  have e2 := shl1 (x := i) (by omega) (by omega)
  have e3 : ((i <<< ((1 : Int32) &&& 31)) + (1 : Int32)).toInt = 2 * k + 1 := by rw [add_int (by omega) (by omega)]; omega
  refine C.getS (B.1 _ (List.mem_of_getElem? (i := 68) rfl)) Via.refl B.2.2.2.1 d5_0 ?_
  refine C.ifc_ne 28 d5_3 (by decide) (by decide) (fun q1 => ?_) (fun q1 => ?_)
  · refine C.iloadN d5_28 rfl ?_
    refine C.iconst (v := (1 : Int32)) d5_29 (by first | rfl | decide) ?_
    refine C.ishl d5_30 ?_
    refine C.istoreN #[.val (.ref d), .val (.int (i <<< ((1 : Int32) &&& 31)))] d5_31 rfl ?_
    refine C.aloadN d5_32 rfl rfl ?_
    refine C.iloadN d5_33 rfl ?_
    refine C.iinc (z := (1 : Int32)) #[.val (.ref d), .val (.int ((i <<< ((1 : Int32) &&& 31)) + (1 : Int32)))] d5_34 rfl (by first | rfl | decide) rfl ?_
    refine C.baload (x := (lo8 c)) (2 * k) Ad (by omega) g1 d5_37 ?_
    refine C.sipush (v := (255 : Int32)) d5_38 (by first | rfl | decide) ?_
    refine C.iand d5_41 ?_
    refine C.getS (B.1 _ (List.mem_of_getElem? (i := 69) rfl)) Via.refl B.2.2.2.2.1 d5_42 ?_
    refine C.ishl d5_45 ?_
    refine C.aloadN d5_46 rfl rfl ?_
    refine C.iloadN d5_47 rfl ?_
    refine C.baload (x := (hi8 c)) (2 * k + 1) Ad (by omega) g2 d5_48 ?_
    refine C.sipush (v := (255 : Int32)) d5_49 (by first | rfl | decide) ?_
    refine C.iand d5_52 ?_
    refine C.getS (B.1 _ (List.mem_of_getElem? (i := 70) rfl)) Via.refl B.2.2.2.2.2 d5_53 ?_
    refine C.ishl d5_56 ?_
    refine C.ior d5_57 ?_
    refine C.i2c d5_58 ?_
    refine C.topI (show ((((lo8 c) &&& (255 : Int32)) <<< ((0 : Int32) &&& 31)) ||| (((hi8 c) &&& (255 : Int32)) <<< ((8 : Int32) &&& 31))).toUInt32.toUInt16.toUInt32.toInt32 = c by exact pair_chr hb.1 hb.2) ?_
    exact C.ireturn (t := .char) rfl (by simp) (nchar hb.1 hb.2) d5_59 (by decide) (by decide) ⟨rfl, rfl⟩
  · exfalso; revert q1; decide
set_option maxRecDepth 65536 in
set_option maxHeartbeats 40000000 in
theorem c_toBytes  (B : Base Z a0) {h : Heap} {b : Nat} {n : Int32} {cs : List Int32} (Ab : Ary Z h b .char (cs.map Value.int)) (hn : n.toInt = cs.length) (hc : cs.length ≤ 4) : Con l Z a0 EL it n0 (⟨"java/lang/StringUTF16", "toBytes", "([CII)[B"⟩ : MethodName) 3 40 1 8 #[.ref b, .int (0 : Int32), .int n] h [] (fun v h' => ∃ d : Nat, v = some (.ref d) ∧ h.size ≤ d ∧ d < h'.size ∧ Ary Z h' d .byte (wide cs)) := by
  refine Met.con (bytes := jdk_52_method_14_code) (maxL := 5) (ret := (some (.array .byte))) (rm := ({ frames := 2, cells := 1, slots := 8, locals := 24 } : Room)) (Met.of (own := "java/lang/StringUTF16") (nm := "toBytes") #[.val (.ref b), .val (.int (0 : Int32)), .val (.int n), .unset, .unset] (ew B) rfl rfl (plainFor_of_name pn_java_lang_StringUTF16) (fun m => by first | (simp [entryFrame, mkF, argsToLocals, Value.category]; done) | rfl) fun K C => ?_) (B.1 _ (List.mem_of_getElem? (i := 57) rfl)) (B.1 _ (List.mem_of_getElem? (i := 17) rfl)) rfl rfl rfl rfl
  have lb := Ab.lt
  refine C.iloadN d6_0 rfl ?_
  refine C.callSo [.int n] [] 0 (B.1 _ (List.mem_of_getElem? (i := 58) rfl)) (B.1 _ (List.mem_of_getElem? (i := 59) rfl)) (B.1 _ (List.mem_of_getElem? (i := 17) rfl)) (B.1 _ (List.mem_of_getElem? (i := 60) rfl)) (by decide) pd__28_I_29__5b_B rfl (c_nbf (it := False) B hn hc) d6_1 rfl rfl rfl (by decide) (by decide) (by decide) (by decide) all0 fun v1 h1 z1 K1 q1 => ?_
  obtain ⟨d, rfl, ld, lt, nd, Ad⟩ := q1
  refine ⟨[d], fun x hx => by cases List.mem_singleton.mp hx; exact ⟨ld, lt⟩, ?_⟩
  show C.W h1 [d] 1 8 (mkF K.m 4 #[.val (.ref b), .val (.int (0 : Int32)), .val (.int n), .unset, .unset] [.ref d])
  refine C.astoreN #[.val (.ref b), .val (.int (0 : Int32)), .val (.int n), .val (.ref d), .unset] d6_4 rfl rfl ?_
  refine C.iconst (v := (0 : Int32)) d6_5 (by first | rfl | decide) ?_
  refine C.istore #[.val (.ref b), .val (.int (0 : Int32)), .val (.int n), .val (.ref d), .val (.int (0 : Int32))] d6_6 rfl ?_
  have Ab_2 := (Ab.keep K1 nin0)
  suffices LOOP : ∀ (j k : Nat) (hL : Heap), j + k = cs.length → h1.size ≤ hL.size → Ary Z hL b .char (cs.map Value.int) → Ary Z hL d .byte (wide (cs.take k) ++ List.replicate (2 * j) (.int 0)) → C.W hL [d] 1 8 (mkF K.m 8 #[.val (.ref b), .val (.int (Int32.ofNat k)), .val (.int n), .val (.ref d), .val (.int (Int32.ofNat k))] []) from LOOP cs.length 0 h1 (by omega) (Nat.le_refl _) Ab_2 Ad
  intro j
  induction j with
  | zero =>
    intro k hL hjk hsz Ab Ad
    have ek : (Int32.ofNat k).toInt = k := ofNat_int (by omega)
    refine C.iload d6_8 rfl ?_
    refine C.iloadN d6_10 rfl ?_
    refine C.icmp_ge 32 d6_11 (by decide) (by decide) (fun q3 => ?_) (fun q3 => ?_)
    · refine C.aloadN d6_32 rfl rfl ?_
      rw [List.take_of_length_le (by omega)] at Ad
      exact C.areturn rfl rfl rfl d6_33 (by decide) (by decide) ⟨d, rfl, ld, by omega, by simpa using Ad⟩
    · exfalso; omega
  | succ j ih =>
    intro k hL hjk hsz Ab Ad
    have ek : (Int32.ofNat k).toInt = k := ofNat_int (by omega)
    refine C.iload d6_8 rfl ?_
    refine C.iloadN d6_10 rfl ?_
    refine C.icmp_ge 32 d6_11 (by decide) (by decide) (fun q4 => ?_) (fun q4 => ?_)
    · exfalso; omega
    · obtain ⟨c, hc⟩ : ∃ c, cs[k]? = some c := ⟨_, List.getElem?_eq_getElem (by omega)⟩
      refine C.aloadN d6_14 rfl rfl ?_
      refine C.iload d6_15 rfl ?_
      refine C.aloadN d6_17 rfl rfl ?_
      refine C.iloadN d6_18 rfl ?_
      refine C.caload (x := c) k Ab ek (by simp [hc]) d6_19 ?_
      refine C.callS [.ref d, .int (Int32.ofNat k), .int c] [] 0 (B.1 _ (List.mem_of_getElem? (i := 65) rfl)) (B.1 _ (List.mem_of_getElem? (i := 66) rfl)) (B.1 _ (List.mem_of_getElem? (i := 17) rfl)) (B.1 _ (List.mem_of_getElem? (i := 67) rfl)) (by decide) pd__28__5b_BII_29_V rfl id (c_putChar B (c := c) Ad ek (by simp [wide_len]; omega)) d6_20 rfl rfl rfl (by decide) (by decide) (by decide) (by decide) (allS (List.mem_of_getElem? (i := 0) rfl) all0) fun v5 h5 z5 K5 q5 => ?_
      obtain ⟨rfl, Ad5⟩ := q5
      show C.W h5 [d] 1 8 (mkF K.m 23 #[.val (.ref b), .val (.int (Int32.ofNat k)), .val (.int n), .val (.ref d), .val (.int (Int32.ofNat k))] [])
      refine C.iinc (z := (1 : Int32)) #[.val (.ref b), .val (.int ((Int32.ofNat k) + (1 : Int32))), .val (.int n), .val (.ref d), .val (.int (Int32.ofNat k))] d6_23 rfl (by first | rfl | decide) rfl ?_
      refine C.iinc (z := (1 : Int32)) #[.val (.ref b), .val (.int ((Int32.ofNat k) + (1 : Int32))), .val (.int n), .val (.ref d), .val (.int ((Int32.ofNat k) + (1 : Int32)))] d6_26 rfl (by first | rfl | decide) rfl ?_
      refine C.goto 8 d6_29 (by decide) (by decide) ?_
      rw [ofNat_succ]
      rw [wide_step hc] at Ad5
      exact ih (k + 1) h5 (by omega) (by omega) (Ab.keep K5 (ninS (neA (by omega)) nin0)) Ad5
set_option maxRecDepth 65536 in
set_option maxHeartbeats 40000000 in
theorem c_cmp3  (B : Base Z a0) {h : Heap} {b : Nat} {n : Int32} {cs : List Int32} (Ab : Ary Z h b .char (cs.map Value.int)) (hn : n.toInt = cs.length) (hc : cs.length ≤ 4) (hp : (∀ c ∈ cs, 0 ≤ c.toInt ∧ c.toInt < 65536)) : Con l Z a0 EL it n0 (⟨"java/lang/StringUTF16", "compress", "([CII)[B"⟩ : MethodName) 4 57 2 12 #[.ref b, .int (0 : Int32), .int n] h [] (fun v h' => ∃ (d : Nat) (cd : Int32) (vs : List Value), v = some (.ref d) ∧ h.size ≤ d ∧ d < h'.size ∧ Ary Z h' d .byte vs ∧ Codes cs cd vs) := by
  refine Met.con (bytes := jdk_52_method_16_code) (maxL := 6) (ret := (some (.array .byte))) (rm := ({ frames := 3, cells := 2, slots := 12, locals := 40 } : Room)) (Met.of (own := "java/lang/StringUTF16") (nm := "compress") #[.val (.ref b), .val (.int (0 : Int32)), .val (.int n), .unset, .unset, .unset] (ew B) rfl rfl (plainFor_of_name pn_java_lang_StringUTF16) (fun m => by first | (simp [entryFrame, mkF, argsToLocals, Value.category]; done) | rfl) fun K C => ?_) (B.1 _ (List.mem_of_getElem? (i := 18) rfl)) (B.1 _ (List.mem_of_getElem? (i := 17) rfl)) rfl rfl rfl rfl
  have lb := Ab.lt
  have k255 : (255 : Int32).toInt = 255 := by decide
  refine C.iloadN d7_0 rfl ?_
  refine C.newarr cs.length 4 (B.1 _ (List.mem_of_getElem? (i := 19) rfl)) d7_1 hn hc (by decide) (by decide) (by decide) fun h1 a2 g1 z1 o1 K1 An1 => ?_
  show C.W h1 [a2] 1 4 (mkF K.m 3 #[.val (.ref b), .val (.int (0 : Int32)), .val (.int n), .unset, .unset, .unset] [.ref a2])
  refine C.astoreN #[.val (.ref b), .val (.int (0 : Int32)), .val (.int n), .val (.ref a2), .unset, .unset] d7_3 rfl rfl ?_
  refine C.aloadN d7_4 rfl rfl ?_
  refine C.iloadN d7_5 rfl ?_
  refine C.aloadN d7_6 rfl rfl ?_
  refine C.iconst (v := (0 : Int32)) d7_7 (by first | rfl | decide) ?_
  refine C.iloadN d7_8 rfl ?_
  have Ab_3 := (Ab.keep K1 nin0)
  refine C.callS [.ref b, .int (0 : Int32), .ref a2, .int (0 : Int32), .int n] [] 0 (B.1 _ (List.mem_of_getElem? (i := 20) rfl)) (B.1 _ (List.mem_of_getElem? (i := 21) rfl)) (B.1 _ (List.mem_of_getElem? (i := 17) rfl)) (B.1 _ (List.mem_of_getElem? (i := 22) rfl)) (by decide) pd__28__5b_CI_5b_BII_29_I rfl id (c_cmp5 B Ab_3 An1 (neA (by omega)) hn hp) d7_9 rfl rfl rfl (by decide) (by decide) (by decide) (by decide) (allS (List.mem_of_getElem? (i := 0) rfl) all0) fun v4 h4 z4 K4 q4 => ?_
  have hq := q4
  rcases hq with ⟨rfl, hlt, A4⟩ | ⟨k, c, rfl, hk, hgt⟩
  · skip
    show C.W h4 [a2] 1 4 (mkF K.m 12 #[.val (.ref b), .val (.int (0 : Int32)), .val (.int n), .val (.ref a2), .unset, .unset] [.int n])
    refine C.istore #[.val (.ref b), .val (.int (0 : Int32)), .val (.int n), .val (.ref a2), .val (.int n), .unset] d7_12 rfl ?_
    refine C.iload d7_14 rfl ?_
    refine C.iloadN d7_16 rfl ?_
    refine C.icmp_eq 57 d7_17 (by decide) (by decide) (fun q5 => ?_) (fun q5 => ?_)
    · refine C.aloadN d7_57 rfl rfl ?_
      exact C.areturn rfl rfl rfl d7_58 (by decide) (by decide) ⟨a2, 0, _, rfl, by omega, by omega, A4, Or.inl ⟨rfl, rfl, fun c hcm => ⟨(hp c hcm).1, hlt c hcm⟩⟩⟩
    · exfalso; exact absurd rfl q5
  · skip
    show C.W h4 [a2] 1 4 (mkF K.m 12 #[.val (.ref b), .val (.int (0 : Int32)), .val (.int n), .val (.ref a2), .unset, .unset] [.int (Int32.ofNat k)])
    have hkl : k < cs.length := (List.getElem?_eq_some_iff.mp hk).1
    have ek : (Int32.ofNat k).toInt = k := ofNat_int (by omega)
    refine C.istore #[.val (.ref b), .val (.int (0 : Int32)), .val (.int n), .val (.ref a2), .val (.int (Int32.ofNat k)), .unset] d7_12 rfl ?_
    refine C.iload d7_14 rfl ?_
    refine C.iloadN d7_16 rfl ?_
    refine C.icmp_eq 57 d7_17 (by decide) (by decide) (fun q6 => ?_) (fun q6 => ?_)
    · exfalso; omega
    · refine C.aloadN d7_20 rfl rfl ?_
      refine C.iloadN d7_21 rfl ?_
      refine C.iloadN d7_22 rfl ?_
      have Ab_7 := (Ab_3.keep K4 (ninS (neA (by omega)) nin0))
      refine C.callS [.ref b, .int (0 : Int32), .int n] [] 0 (B.1 _ (List.mem_of_getElem? (i := 55) rfl)) (B.1 _ (List.mem_of_getElem? (i := 56) rfl)) (B.1 _ (List.mem_of_getElem? (i := 17) rfl)) (B.1 _ (List.mem_of_getElem? (i := 57) rfl)) (by decide) pd__28__5b_CII_29__5b_B rfl id (c_toBytes B Ab_7 hn hc) d7_23 rfl rfl rfl (by decide) (by decide) (by decide) (by decide) all0 fun v8 h8 z8 K8 q8 => ?_
      obtain ⟨d, rfl, ld, lt, Ad⟩ := q8
      show C.W h8 [a2] 2 12 (mkF K.m 26 #[.val (.ref b), .val (.int (0 : Int32)), .val (.int n), .val (.ref a2), .val (.int (Int32.ofNat k)), .unset] [.ref d])
      refine C.astore #[.val (.ref b), .val (.int (0 : Int32)), .val (.int n), .val (.ref a2), .val (.int (Int32.ofNat k)), .val (.ref d)] d7_26 rfl rfl ?_
      refine C.aload d7_28 rfl rfl ?_
      refine C.iload d7_30 rfl ?_
      refine C.callS [.ref d, .int (Int32.ofNat k)] [] 0 (B.1 _ (List.mem_of_getElem? (i := 71) rfl)) (B.1 _ (List.mem_of_getElem? (i := 72) rfl)) (B.1 _ (List.mem_of_getElem? (i := 17) rfl)) (B.1 _ (List.mem_of_getElem? (i := 73) rfl)) (by decide) pd__28__5b_BI_29_C rfl id (c_getChar B Ad ek hk (hp c (List.mem_of_getElem? hk))) d7_32 rfl rfl rfl (by decide) (by decide) (by decide) (by decide) all0 fun v9 h9 z9 K9 q9 => ?_
      obtain ⟨rfl, rfl⟩ := q9
      show C.W h8 [a2] 2 12 (mkF K.m 35 #[.val (.ref b), .val (.int (0 : Int32)), .val (.int n), .val (.ref a2), .val (.int (Int32.ofNat k)), .val (.ref d)] [.int c])
      refine C.sipush (v := (255 : Int32)) d7_35 (by first | rfl | decide) ?_
      refine C.icmp_gt 54 d7_38 (by decide) (by decide) (fun q10 => ?_) (fun q10 => ?_)
      · refine C.aload d7_54 rfl rfl ?_
        exact C.areturn rfl rfl rfl d7_56 (by decide) (by decide) ⟨d, 1, _, rfl, by omega, by omega, Ad, Or.inr ⟨rfl, rfl, hp, c, List.mem_of_getElem? hk, hgt⟩⟩
      · exfalso; omega
set_option maxRecDepth 65536 in
set_option maxHeartbeats 40000000 in
theorem c_init4  (B : Base Z a0) {h : Heap} {x b : Nat} {n : Int32} {cs : List Int32} {v0 c0 : Value} (Ex : Exa Z h x "java/lang/String") (Fv : Fld Z h x "java/lang/String" "value" "[B" v0) (Fc : Fld Z h x "java/lang/String" "coder" "B" c0) (Ab : Ary Z h b .char (cs.map Value.int)) (hn : n.toInt = cs.length) (hc : cs.length ≤ 4) (hp : (∀ c ∈ cs, 0 ≤ c.toInt ∧ c.toInt < 65536)) (hne : cs ≠ []) : Con l Z a0 EL it n0 (⟨"java/lang/String", "<init>", "([CIILjava/lang/Void;)V"⟩ : MethodName) 5 74 2 12 #[.ref x, .ref b, .int (0 : Int32), .int n, .null] h [x] (fun v h' => v = none ∧ Str Z h' h'.size x cs) := by
  refine Met.con (bytes := jdk_42_method_149_code) (maxL := 6) (ret := none) (rm := ({ frames := 4, cells := 2, slots := 12, locals := 57 } : Room)) (Met.of (own := "java/lang/String") (nm := "<init>") #[.val (.ref x), .val (.ref b), .val (.int (0 : Int32)), .val (.int n), .val .null, .unset] (ew B) rfl rfl (plainFor_of_name pn_java_lang_String) (fun m => by first | (simp [entryFrame, mkF, argsToLocals, Value.category]; done) | rfl) fun K C => ?_) (B.1 _ (List.mem_of_getElem? (i := 10) rfl)) (B.1 _ (List.mem_of_getElem? (i := 3) rfl)) rfl rfl rfl rfl
  obtain ⟨zc, Sc, hzc⟩ := B.2.1
  have lx := exaLt Ex
  have lb := Ab.lt
  refine C.aloadN d8_0 rfl rfl ?_
  refine C.initO 0 (B.1 _ (List.mem_of_getElem? (i := 11) rfl)) (B.1 _ (List.mem_of_getElem? (i := 12) rfl)) (B.1 _ (List.mem_of_getElem? (i := 13) rfl)) d8_1 rfl rfl (by decide) (by decide) ?_
  show C.W h [x] 0 0 (mkF K.m 4 #[.val (.ref x), .val (.ref b), .val (.int (0 : Int32)), .val (.int n), .val .null, .unset] [])
  refine C.iloadN d8_4 rfl ?_
  refine C.ifc_ne 27 d8_5 (by decide) (by decide) (fun q1 => ?_) (fun q1 => ?_)
  · refine C.getS (B.1 _ (List.mem_of_getElem? (i := 14) rfl)) Via.refl Sc d8_27 ?_
    refine C.ifc_eq 58 d8_30 (by decide) (by decide) (fun q2 => ?_) (fun q2 => ?_)
    · exfalso; exact hzc (Int32.toInt_inj.mp q2)
    · refine C.aloadN d8_33 rfl rfl ?_
      refine C.iloadN d8_34 rfl ?_
      refine C.iloadN d8_35 rfl ?_
      refine C.callS [.ref b, .int (0 : Int32), .int n] [] 0 (B.1 _ (List.mem_of_getElem? (i := 15) rfl)) (B.1 _ (List.mem_of_getElem? (i := 16) rfl)) (B.1 _ (List.mem_of_getElem? (i := 17) rfl)) (B.1 _ (List.mem_of_getElem? (i := 18) rfl)) (by decide) pd__28__5b_CII_29__5b_B rfl id (c_cmp3 B Ab hn hc hp) d8_36 rfl rfl rfl (by decide) (by decide) (by decide) (by decide) all0 fun v3 h3 z3 K3 q3 => ?_
      obtain ⟨d3, cd3, vs3, rfl, ld3, lt3, A3, cod3⟩ := q3
      show C.W h3 [x] 2 12 (mkF K.m 39 #[.val (.ref x), .val (.ref b), .val (.int (0 : Int32)), .val (.int n), .val .null, .unset] [.ref d3])
      refine C.astore #[.val (.ref x), .val (.ref b), .val (.int (0 : Int32)), .val (.int n), .val .null, .val (.ref d3)] d8_39 rfl rfl ?_
      refine C.aloadN d8_41 rfl rfl ?_
      refine C.aload d8_42 rfl rfl ?_
      refine C.iloadN d8_44 rfl ?_
      refine C.callS [.ref d3, .int n] [.ref x] 1 (B.1 _ (List.mem_of_getElem? (i := 23) rfl)) (B.1 _ (List.mem_of_getElem? (i := 24) rfl)) (B.1 _ (List.mem_of_getElem? (i := 17) rfl)) (B.1 _ (List.mem_of_getElem? (i := 25) rfl)) (by decide) pd__28__5b_BI_29_B rfl id (c_cfal B A3 cod3 hn (by omega)) d8_45 rfl rfl rfl (by decide) (by decide) (by decide) (by decide) all0 fun v4 h4 z4 K4 q4 => ?_
      obtain ⟨rfl, rfl⟩ := q4
      show C.W h3 [x] 2 12 (mkF K.m 48 #[.val (.ref x), .val (.ref b), .val (.int (0 : Int32)), .val (.int n), .val .null, .val (.ref d3)] [.int cd3, .ref x])
      have Fc_5 := (Fc.keep K3 nin0)
      have Ex_6 := (Ex.keep K3)
      have Fv_7 := (Fv.keep K3 nin0)
      refine C.putF (host := "") (Or.inl (B.1 _ (List.mem_of_getElem? (i := 26) rfl))) Via.refl Fc_5 Ex_6 (Or.inr ⟨(B.1 _ (List.mem_of_getElem? (i := 27) rfl)), rfl, rfl⟩) (B.1 _ (List.mem_of_getElem? (i := 2) rfl)) (ty := .byte) (by decide) (by rcases cod3.cd with e | e <;> rw [e] <;> rfl) (by rcases cod3.cd with e | e <;> rw [e] <;> rfl) d8_48 (List.mem_of_getElem? (i := 0) rfl) fun h8 z8 K8 Ew8 Fw8 Gw8 => ?_
      have Fv_9 := Gw8 (slot_ne (Or.inr (B.1 _ (List.mem_of_getElem? (i := 29) rfl))) (Or.inr (B.1 _ (List.mem_of_getElem? (i := 27) rfl))) (by decide) (t := (.array .byte)) (t' := .byte) (by decide) (by decide)) Fv_7
      show C.W h8 [x] 2 12 (mkF K.m 51 #[.val (.ref x), .val (.ref b), .val (.int (0 : Int32)), .val (.int n), .val .null, .val (.ref d3)] [])
      refine C.aloadN d8_51 rfl rfl ?_
      refine C.aload d8_52 rfl rfl ?_
      refine C.putF (host := "") (Or.inl (B.1 _ (List.mem_of_getElem? (i := 28) rfl))) Via.refl Fv_9 Ew8 (Or.inr ⟨(B.1 _ (List.mem_of_getElem? (i := 29) rfl)), rfl, rfl⟩) (B.1 _ (List.mem_of_getElem? (i := 2) rfl)) (ty := (.array .byte)) (by decide) rfl rfl d8_54 (List.mem_of_getElem? (i := 0) rfl) fun h10 z10 K10 Ew10 Fw10 Gw10 => ?_
      have Fc_11 := Gw10 (slot_ne (Or.inr (B.1 _ (List.mem_of_getElem? (i := 27) rfl))) (Or.inr (B.1 _ (List.mem_of_getElem? (i := 29) rfl))) (by decide) (t := .byte) (t' := (.array .byte)) (by decide) (by decide)) Fw8
      show C.W h10 [x] 2 12 (mkF K.m 57 #[.val (.ref x), .val (.ref b), .val (.int (0 : Int32)), .val (.int n), .val .null, .val (.ref d3)] [])
      have A3_12 := ((A3.keep K8 (ninS (neA (by omega)) nin0)).keep K10 (ninS (neA (by omega)) nin0))
      exact C.return_ rfl d8_57 (by decide) (by decide) ⟨rfl, Ew10, by omega, Nat.le_refl _, d3, _, _, by omega, Fw10, Fc_11, A3_12, cod3⟩
  · have ecs : cs = [] := List.length_eq_zero_iff.mp (by omega)
    exfalso; exact hne ecs
set_option maxRecDepth 65536 in
set_option maxHeartbeats 40000000 in
theorem c_init1  (B : Base Z a0) {h : Heap} {x b : Nat} {cs : List Int32} {v0 c0 : Value} (Ex : Exa Z h x "java/lang/String") (Fv : Fld Z h x "java/lang/String" "value" "[B" v0) (Fc : Fld Z h x "java/lang/String" "coder" "B" c0) (Ab : Ary Z h b .char (cs.map Value.int)) (hc : cs.length ≤ 4) (hp : (∀ c ∈ cs, 0 ≤ c.toInt ∧ c.toInt < 65536)) (hne : cs ≠ []) : Con l Z a0 EL it n0 (⟨"java/lang/String", "<init>", "([C)V"⟩ : MethodName) 6 87 2 12 #[.ref x, .ref b] h [x] (fun v h' => v = none ∧ Str Z h' h'.size x cs) := by
  refine Met.con (bytes := jdk_42_method_3_code) (maxL := 2) (ret := none) (rm := ({ frames := 5, cells := 2, slots := 12, locals := 74 } : Room)) (Met.of (own := "java/lang/String") (nm := "<init>") #[.val (.ref x), .val (.ref b)] (ew B) rfl rfl (plainFor_of_name pn_java_lang_String) (fun m => by first | (simp [entryFrame, mkF, argsToLocals, Value.category]; done) | rfl) fun K C => ?_) (B.1 _ (List.mem_of_getElem? (i := 6) rfl)) (B.1 _ (List.mem_of_getElem? (i := 3) rfl)) rfl rfl rfl rfl
  have hn : (Int32.ofNat cs.length).toInt = cs.length := ofNat_int (by omega)
  refine C.aloadN d9_0 rfl rfl ?_
  refine C.aloadN d9_1 rfl rfl ?_
  refine C.iconst (v := (0 : Int32)) d9_2 (by first | rfl | decide) ?_
  refine C.aloadN d9_3 rfl rfl ?_
  refine C.alen (n := (Int32.ofNat cs.length)) Ab (by simpa using hn) d9_4 ?_
  refine C.aconstNull d9_5 ?_
  refine C.callN x [.ref b, .int (0 : Int32), .int (Int32.ofNat cs.length), .null] [] 0 (B.1 _ (List.mem_of_getElem? (i := 7) rfl)) (B.1 _ (List.mem_of_getElem? (i := 8) rfl)) (B.1 _ (List.mem_of_getElem? (i := 10) rfl)) rfl (by decide) pd__28__5b_CIILjava_2f_lang_2f_Void_3b__29_V rfl id (c_init4 B Ex Fv Fc Ab hn hc hp hne) d9_6 rfl rfl rfl (by decide) (by decide) (by decide) (by decide) (allS (List.mem_of_getElem? (i := 0) rfl) all0) fun v1 h1 z1 K1 q1 => ?_
  obtain ⟨rfl, S1⟩ := q1
  show C.W h1 [x] 2 12 (mkF K.m 9 #[.val (.ref x), .val (.ref b)] [])
  exact C.return_ rfl d9_9 (by decide) (by decide) ⟨rfl, S1⟩
set_option maxRecDepth 65536 in
set_option maxHeartbeats 40000000 in
theorem c_isLat  (B : Base Z a0) {h : Heap} {x : Nat} {cd : Int32} (Fc : Fld Z h x "java/lang/String" "coder" "B" (.int cd)) : Con l Z a0 EL it n0 (⟨"java/lang/String", "isLatin1", "()Z"⟩ : MethodName) 1 12 0 0 #[.ref x] h [] (fun v h' => v = some (.int (if cd = 0 then 1 else 0)) ∧ h = h') := by
  refine Met.con (bytes := jdk_42_method_154_code) (maxL := 1) (ret := (some .boolean)) (rm := ({ frames := 0, cells := 0, slots := 0, locals := 0 } : Room)) (Met.of (own := "java/lang/String") (nm := "isLatin1") #[.val (.ref x)] (ew B) rfl rfl (plainFor_of_name pn_java_lang_String) (fun m => by first | (simp [entryFrame, mkF, argsToLocals, Value.category]; done) | rfl) fun K C => ?_) (B.1 _ (List.mem_of_getElem? (i := 83) rfl)) (B.1 _ (List.mem_of_getElem? (i := 3) rfl)) rfl rfl rfl rfl
  obtain ⟨zc, Sc, hzc⟩ := B.2.1
  refine C.getS (B.1 _ (List.mem_of_getElem? (i := 14) rfl)) Via.refl Sc d10_0 ?_
  refine C.ifc_eq 17 d10_3 (by decide) (by decide) (fun q1 => ?_) (fun q1 => ?_)
  · exfalso; exact hzc (Int32.toInt_inj.mp q1)
  · refine C.aloadN d10_6 rfl rfl ?_
    refine C.getF (host := "") (Or.inl (B.1 _ (List.mem_of_getElem? (i := 26) rfl))) Via.refl Fc d10_7 ?_
    refine C.ifc_ne 17 d10_10 (by decide) (by decide) (fun q2 => ?_) (fun q2 => ?_)
    · refine C.iconst (v := (0 : Int32)) d10_17 (by first | rfl | decide) ?_
      exact C.ireturn (t := .boolean) rfl (by simp) rfl d10_18 (by decide) (by decide) ⟨by rw [if_neg (fun e => q2 (by rw [e]; rfl))], rfl⟩
    · refine C.iconst (v := (1 : Int32)) d10_13 (by first | rfl | decide) ?_
      refine C.goto 18 d10_14 (by decide) (by decide) ?_
      exact C.ireturn (t := .boolean) rfl (by simp) rfl d10_18 (by decide) (by decide) ⟨by rw [if_pos (Int32.toInt_inj.mp q2)], rfl⟩
set_option maxRecDepth 65536 in
set_option maxHeartbeats 40000000 in
theorem c_pciN  (B : Base Z a0) {h : Heap} {i n : Int32} (h0 : 0 ≤ i.toInt) (h1 : i.toInt < n.toInt) : Con l Z a0 EL it n0 (⟨"jdk/internal/util/Preconditions", "checkIndex", "(IILjava/util/function/BiFunction;)I"⟩ : MethodName) 1 14 0 0 #[.int i, .int n, .null] h [] (fun v h' => v = some (.int i) ∧ h = h') := by
  refine Met.con (bytes := jdk_41_method_11_code) (maxL := 3) (ret := (some .int)) (rm := ({ frames := 0, cells := 0, slots := 0, locals := 0 } : Room)) (Met.of (own := "jdk/internal/util/Preconditions") (nm := "checkIndex") #[.val (.int i), .val (.int n), .val .null] (ew B) rfl rfl (plainFor_of_name pn_jdk_internal_util_Preconditions) (fun m => by first | (simp [entryFrame, mkF, argsToLocals, Value.category]; done) | rfl) fun K C => ?_) (B.1 _ (List.mem_of_getElem? (i := 100) rfl)) (B.1 _ (List.mem_of_getElem? (i := 97) rfl)) rfl rfl rfl rfl
  refine C.iloadN d11_0 rfl ?_
  refine C.ifc_lt 9 d11_1 (by decide) (by decide) (fun q1 => ?_) (fun q1 => ?_)
  · exfalso; omega
  · refine C.iloadN d11_4 rfl ?_
    refine C.iloadN d11_5 rfl ?_
    refine C.icmp_lt 16 d11_6 (by decide) (by decide) (fun q2 => ?_) (fun q2 => ?_)
    · refine C.iloadN d11_16 rfl ?_
      exact C.ireturn (t := .int) rfl (by simp) rfl d11_17 (by decide) (by decide) ⟨rfl, rfl⟩
    · exfalso; omega
set_option maxRecDepth 65536 in
set_option maxHeartbeats 40000000 in
theorem c_pciA  (B : Base Z a0) {h : Heap} {i n : Int32} {g : Nat} (h0 : 0 ≤ i.toInt) (h1 : i.toInt < n.toInt) : Con l Z a0 EL it n0 (⟨"jdk/internal/util/Preconditions", "checkIndex", "(IILjava/util/function/BiFunction;)I"⟩ : MethodName) 1 14 0 0 #[.int i, .int n, .ref g] h [] (fun v h' => v = some (.int i) ∧ h = h') := by
  refine Met.con (bytes := jdk_41_method_11_code) (maxL := 3) (ret := (some .int)) (rm := ({ frames := 0, cells := 0, slots := 0, locals := 0 } : Room)) (Met.of (own := "jdk/internal/util/Preconditions") (nm := "checkIndex") #[.val (.int i), .val (.int n), .val (.ref g)] (ew B) rfl rfl (plainFor_of_name pn_jdk_internal_util_Preconditions) (fun m => by first | (simp [entryFrame, mkF, argsToLocals, Value.category]; done) | rfl) fun K C => ?_) (B.1 _ (List.mem_of_getElem? (i := 100) rfl)) (B.1 _ (List.mem_of_getElem? (i := 97) rfl)) rfl rfl rfl rfl
  refine C.iloadN d11_0 rfl ?_
  refine C.ifc_lt 9 d11_1 (by decide) (by decide) (fun q1 => ?_) (fun q1 => ?_)
  · exfalso; omega
  · refine C.iloadN d11_4 rfl ?_
    refine C.iloadN d11_5 rfl ?_
    refine C.icmp_lt 16 d11_6 (by decide) (by decide) (fun q2 => ?_) (fun q2 => ?_)
    · refine C.iloadN d11_16 rfl ?_
      exact C.ireturn (t := .int) rfl (by simp) rfl d11_17 (by decide) (by decide) ⟨rfl, rfl⟩
    · exfalso; omega
set_option maxRecDepth 65536 in
set_option maxHeartbeats 40000000 in
theorem c_sci  (B : Base Z a0) {h : Heap} {i n : Int32} (h0 : 0 ≤ i.toInt) (h1 : i.toInt < n.toInt) : Con l Z a0 EL it n0 (⟨"java/lang/String", "checkIndex", "(II)V"⟩ : MethodName) 2 27 0 0 #[.int i, .int n] h [] (fun v h' => v = none ∧ h = h') := by
  refine Met.con (bytes := jdk_42_method_155_code) (maxL := 2) (ret := none) (rm := ({ frames := 1, cells := 0, slots := 0, locals := 14 } : Room)) (Met.of (own := "java/lang/String") (nm := "checkIndex") #[.val (.int i), .val (.int n)] (ew B) rfl rfl (plainFor_of_name pn_java_lang_String) (fun m => by first | (simp [entryFrame, mkF, argsToLocals, Value.category]; done) | rfl) fun K C => ?_) (B.1 _ (List.mem_of_getElem? (i := 95) rfl)) (B.1 _ (List.mem_of_getElem? (i := 3) rfl)) rfl rfl rfl rfl
  obtain ⟨fm, Sf, hf⟩ := B.2.2.1
  rcases ref_cases hf with rfl | ⟨f, rfl⟩
  · skip
    refine C.iloadN d12_0 rfl ?_
    refine C.iloadN d12_1 rfl ?_
    refine C.getS (B.1 _ (List.mem_of_getElem? (i := 96) rfl)) Via.refl Sf d12_2 ?_
    refine C.callS [.int i, .int n, .null] [] 0 (B.1 _ (List.mem_of_getElem? (i := 98) rfl)) (B.1 _ (List.mem_of_getElem? (i := 99) rfl)) (B.1 _ (List.mem_of_getElem? (i := 97) rfl)) (B.1 _ (List.mem_of_getElem? (i := 100) rfl)) (by decide) pd__28_IILjava_2f_util_2f_function_2f_BiFunction_3b__29_I rfl id (c_pciN B h0 h1) d12_5 rfl rfl rfl (by decide) (by decide) (by decide) (by decide) all0 fun v1 h1 z1 K1 q1 => ?_
    obtain ⟨rfl, rfl⟩ := q1
    show C.W h [] 0 0 (mkF K.m 8 #[.val (.int i), .val (.int n)] [.int i])
    refine C.pop rfl d12_8 ?_
    exact C.return_ rfl d12_9 (by decide) (by decide) ⟨rfl, rfl⟩
  · skip
    refine C.iloadN d12_0 rfl ?_
    refine C.iloadN d12_1 rfl ?_
    refine C.getS (B.1 _ (List.mem_of_getElem? (i := 96) rfl)) Via.refl Sf d12_2 ?_
    refine C.callS [.int i, .int n, .ref f] [] 0 (B.1 _ (List.mem_of_getElem? (i := 98) rfl)) (B.1 _ (List.mem_of_getElem? (i := 99) rfl)) (B.1 _ (List.mem_of_getElem? (i := 97) rfl)) (B.1 _ (List.mem_of_getElem? (i := 100) rfl)) (by decide) pd__28_IILjava_2f_util_2f_function_2f_BiFunction_3b__29_I rfl id (c_pciA B h0 h1) d12_5 rfl rfl rfl (by decide) (by decide) (by decide) (by decide) all0 fun v2 h2 z2 K2 q2 => ?_
    obtain ⟨rfl, rfl⟩ := q2
    show C.W h [] 0 0 (mkF K.m 8 #[.val (.int i), .val (.int n)] [.int i])
    refine C.pop rfl d12_8 ?_
    exact C.return_ rfl d12_9 (by decide) (by decide) ⟨rfl, rfl⟩
set_option maxRecDepth 65536 in
set_option maxHeartbeats 40000000 in
theorem c_l1cha  (B : Base Z a0) {h : Heap} {d k : Nat} {i c : Int32} {cs : List Int32} (Ad : Ary Z h d .byte (cs.map fun c => Value.int (lo8 c))) (hi : i.toInt = k) (hc : cs[k]? = some c) (hb : 0 ≤ c.toInt ∧ c.toInt < 256) : Con l Z a0 EL it n0 (⟨"java/lang/StringLatin1", "charAt", "([BI)C"⟩ : MethodName) 3 40 0 0 #[.ref d, .int i] h [] (fun v h' => v = some (.int c) ∧ h = h') := by
  refine Met.con (bytes := jdk_43_method_2_code) (maxL := 2) (ret := (some .char)) (rm := ({ frames := 2, cells := 0, slots := 0, locals := 27 } : Room)) (Met.of (own := "java/lang/StringLatin1") (nm := "charAt") #[.val (.ref d), .val (.int i)] (ew B) rfl rfl (plainFor_of_name pn_java_lang_StringLatin1) (fun m => by first | (simp [entryFrame, mkF, argsToLocals, Value.category]; done) | rfl) fun K C => ?_) (B.1 _ (List.mem_of_getElem? (i := 116) rfl)) (B.1 _ (List.mem_of_getElem? (i := 115) rfl)) rfl rfl rfl rfl
  have lA := Ad.len
  rw [List.length_map] at lA
  have hk : k < cs.length := (List.getElem?_eq_some_iff.mp hc).1
  have em : (Int32.ofNat cs.length).toInt = cs.length := ofNat_int lA
  refine C.iloadN d13_0 rfl ?_
  refine C.aloadN d13_1 rfl rfl ?_
  refine C.alen (n := (Int32.ofNat cs.length)) Ad (by rw [List.length_map]; exact em) d13_2 ?_
  refine C.callS [.int i, .int (Int32.ofNat cs.length)] [] 0 (B.1 _ (List.mem_of_getElem? (i := 117) rfl)) (B.1 _ (List.mem_of_getElem? (i := 94) rfl)) (B.1 _ (List.mem_of_getElem? (i := 3) rfl)) (B.1 _ (List.mem_of_getElem? (i := 95) rfl)) (by decide) pd__28_II_29_V rfl id (c_sci B (by omega) (by omega)) d13_3 rfl rfl rfl (by decide) (by decide) (by decide) (by decide) all0 fun v1 h1 z1 K1 q1 => ?_
  obtain ⟨rfl, rfl⟩ := q1
  show C.W h [] 0 0 (mkF K.m 6 #[.val (.ref d), .val (.int i)] [])
  refine C.aloadN d13_6 rfl rfl ?_
  refine C.iloadN d13_7 rfl ?_
  refine C.baload (x := (lo8 c)) k Ad hi (by simp [hc]) d13_8 ?_
  refine C.sipush (v := (255 : Int32)) d13_9 (by first | rfl | decide) ?_
  refine C.iand d13_12 ?_
  refine C.i2c d13_13 ?_
  refine C.topI (show ((lo8 c) &&& (255 : Int32)).toUInt32.toUInt16.toUInt32.toInt32 = c by have q := lo8_and c; have e : (lo8 c &&& 255) = c := Int32.toInt_inj.mp (by omega); rw [e]; exact i2c_id (by omega) (by omega)) ?_
  exact C.ireturn (t := .char) rfl (by simp) (nchar (by omega) (by omega)) d13_14 (by decide) (by decide) ⟨rfl, rfl⟩
set_option maxRecDepth 65536 in
set_option maxHeartbeats 40000000 in
theorem c_ulen  (B : Base Z a0) {h : Heap} {d : Nat} {vs : List Value} (Ad : Ary Z h d .byte vs) : Con l Z a0 EL it n0 (⟨"java/lang/StringUTF16", "length", "([B)I"⟩ : MethodName) 1 12 0 0 #[.ref d] h [] (fun v h' => ∃ m : Int32, v = some (.int m) ∧ m.toInt = vs.length / 2 ∧ h = h') := by
  refine Met.con (bytes := jdk_52_method_6_code) (maxL := 1) (ret := (some .int)) (rm := ({ frames := 0, cells := 0, slots := 0, locals := 0 } : Room)) (Met.of (own := "java/lang/StringUTF16") (nm := "length") #[.val (.ref d)] (ew B) rfl rfl (plainFor_of_name pn_java_lang_StringUTF16) (fun m => by first | (simp [entryFrame, mkF, argsToLocals, Value.category]; done) | rfl) fun K C => ?_) (B.1 _ (List.mem_of_getElem? (i := 92) rfl)) (B.1 _ (List.mem_of_getElem? (i := 17) rfl)) rfl rfl rfl rfl
  have lA := Ad.len
  have em : (Int32.ofNat vs.length).toInt = vs.length := ofNat_int lA
  refine C.aloadN d14_0 rfl rfl ?_
  refine C.alen (n := (Int32.ofNat vs.length)) Ad em d14_1 ?_
  refine C.iconst (v := (1 : Int32)) d14_2 (by first | rfl | decide) ?_
  refine C.ishr d14_3 ?_
  have e := c_ishr (Int32.ofNat vs.length) 1 1 (by decide)
  exact C.ireturn (t := .int) rfl (by simp) rfl d14_4 (by decide) (by decide) ⟨_, rfl, by rw [e, em]; simp, rfl⟩
set_option maxRecDepth 65536 in
set_option maxHeartbeats 40000000 in
theorem c_uci  (B : Base Z a0) {h : Heap} {d : Nat} {i : Int32} {vs : List Value} (Ad : Ary Z h d .byte vs) (h0 : 0 ≤ i.toInt) (h1 : i.toInt < vs.length / 2) : Con l Z a0 EL it n0 (⟨"java/lang/StringUTF16", "checkIndex", "(I[B)V"⟩ : MethodName) 3 40 0 0 #[.int i, .ref d] h [] (fun v h' => v = none ∧ h = h') := by
  refine Met.con (bytes := jdk_52_method_91_code) (maxL := 2) (ret := none) (rm := ({ frames := 2, cells := 0, slots := 0, locals := 27 } : Room)) (Met.of (own := "java/lang/StringUTF16") (nm := "checkIndex") #[.val (.int i), .val (.ref d)] (ew B) rfl rfl (plainFor_of_name pn_java_lang_StringUTF16) (fun m => by first | (simp [entryFrame, mkF, argsToLocals, Value.category]; done) | rfl) fun K C => ?_) (B.1 _ (List.mem_of_getElem? (i := 89) rfl)) (B.1 _ (List.mem_of_getElem? (i := 17) rfl)) rfl rfl rfl rfl
  refine C.iloadN d15_0 rfl ?_
  refine C.aloadN d15_1 rfl rfl ?_
  refine C.callS [.ref d] [.int i] 1 (B.1 _ (List.mem_of_getElem? (i := 90) rfl)) (B.1 _ (List.mem_of_getElem? (i := 91) rfl)) (B.1 _ (List.mem_of_getElem? (i := 17) rfl)) (B.1 _ (List.mem_of_getElem? (i := 92) rfl)) (by decide) pd__28__5b_B_29_I rfl id (c_ulen B Ad) d15_2 rfl rfl rfl (by decide) (by decide) (by decide) (by decide) all0 fun v1 h1 z1 K1 q1 => ?_
  obtain ⟨m, rfl, hm, rfl⟩ := q1
  show C.W h [] 0 0 (mkF K.m 5 #[.val (.int i), .val (.ref d)] [.int m, .int i])
  refine C.callS [.int i, .int m] [] 0 (B.1 _ (List.mem_of_getElem? (i := 93) rfl)) (B.1 _ (List.mem_of_getElem? (i := 94) rfl)) (B.1 _ (List.mem_of_getElem? (i := 3) rfl)) (B.1 _ (List.mem_of_getElem? (i := 95) rfl)) (by decide) pd__28_II_29_V rfl id (c_sci B h0 (by omega)) d15_5 rfl rfl rfl (by decide) (by decide) (by decide) (by decide) all0 fun v2 h2 z2 K2 q2 => ?_
  obtain ⟨rfl, rfl⟩ := q2
  show C.W h [] 0 0 (mkF K.m 8 #[.val (.int i), .val (.ref d)] [])
  exact C.return_ rfl d15_8 (by decide) (by decide) ⟨rfl, rfl⟩
set_option maxRecDepth 65536 in
set_option maxHeartbeats 40000000 in
theorem c_ucha  (B : Base Z a0) {h : Heap} {d k : Nat} {i c : Int32} {cs : List Int32} (Ad : Ary Z h d .byte (wide cs)) (hi : i.toInt = k) (hc : cs[k]? = some c) (hb : 0 ≤ c.toInt ∧ c.toInt < 65536) : Con l Z a0 EL it n0 (⟨"java/lang/StringUTF16", "charAt", "([BI)C"⟩ : MethodName) 4 53 0 0 #[.ref d, .int i] h [] (fun v h' => v = some (.int c) ∧ h = h') := by
  refine Met.con (bytes := jdk_52_method_83_code) (maxL := 2) (ret := (some .char)) (rm := ({ frames := 3, cells := 0, slots := 0, locals := 40 } : Room)) (Met.of (own := "java/lang/StringUTF16") (nm := "charAt") #[.val (.ref d), .val (.int i)] (ew B) rfl rfl (plainFor_of_name pn_java_lang_StringUTF16) (fun m => by first | (simp [entryFrame, mkF, argsToLocals, Value.category]; done) | rfl) fun K C => ?_) (B.1 _ (List.mem_of_getElem? (i := 86) rfl)) (B.1 _ (List.mem_of_getElem? (i := 17) rfl)) rfl rfl rfl rfl
  have hk : k < cs.length := (List.getElem?_eq_some_iff.mp hc).1
  refine C.iloadN d16_0 rfl ?_
  refine C.aloadN d16_1 rfl rfl ?_
  refine C.callS [.int i, .ref d] [] 0 (B.1 _ (List.mem_of_getElem? (i := 87) rfl)) (B.1 _ (List.mem_of_getElem? (i := 88) rfl)) (B.1 _ (List.mem_of_getElem? (i := 17) rfl)) (B.1 _ (List.mem_of_getElem? (i := 89) rfl)) (by decide) pd__28_I_5b_B_29_V rfl id (c_uci B Ad (by omega) (by rw [wide_len]; omega)) d16_2 rfl rfl rfl (by decide) (by decide) (by decide) (by decide) all0 fun v1 h1 z1 K1 q1 => ?_
  obtain ⟨rfl, rfl⟩ := q1
  show C.W h [] 0 0 (mkF K.m 5 #[.val (.ref d), .val (.int i)] [])
  refine C.aloadN d16_5 rfl rfl ?_
  refine C.iloadN d16_6 rfl ?_
  refine C.callS [.ref d, .int i] [] 0 (B.1 _ (List.mem_of_getElem? (i := 71) rfl)) (B.1 _ (List.mem_of_getElem? (i := 72) rfl)) (B.1 _ (List.mem_of_getElem? (i := 17) rfl)) (B.1 _ (List.mem_of_getElem? (i := 73) rfl)) (by decide) pd__28__5b_BI_29_C rfl id (c_getChar B Ad hi hc hb) d16_7 rfl rfl rfl (by decide) (by decide) (by decide) (by decide) all0 fun v2 h2 z2 K2 q2 => ?_
  obtain ⟨rfl, rfl⟩ := q2
  show C.W h [] 0 0 (mkF K.m 10 #[.val (.ref d), .val (.int i)] [.int c])
  exact C.ireturn (t := .char) rfl (by simp) (nchar hb.1 hb.2) d16_10 (by decide) (by decide) ⟨rfl, rfl⟩
set_option maxRecDepth 65536 in
set_option maxHeartbeats 40000000 in
theorem c_charAt  (B : Base Z a0) {h : Heap} {N k : Nat} {x : Nat} {i c : Int32} {cs : List Int32} (S : Str Z h N x cs) (hi : i.toInt = k) (hc : cs[k]? = some c) : Con l Z a0 EL it n0 (⟨"java/lang/String", "charAt", "(I)C"⟩ : MethodName) 5 66 0 0 #[.ref x, .int i] h [] (fun v h' => v = some (.int c) ∧ h = h') := by
  refine Met.con (bytes := jdk_42_method_56_code) (maxL := 2) (ret := (some .char)) (rm := ({ frames := 4, cells := 0, slots := 0, locals := 53 } : Room)) (Met.of (own := "java/lang/String") (nm := "charAt") #[.val (.ref x), .val (.int i)] (ew B) rfl rfl (plainFor_of_name pn_java_lang_String) (fun m => by first | (simp [entryFrame, mkF, argsToLocals, Value.category]; done) | rfl) fun K C => ?_) (B.1 _ (List.mem_of_getElem? (i := 78) rfl)) (B.1 _ (List.mem_of_getElem? (i := 3) rfl)) rfl rfl rfl rfl
  obtain ⟨Ex, lx1, lx2, tx, cx, vx, ltx, Vx, Cx, Ax, codx⟩ := S
  refine C.aloadN d17_0 rfl rfl ?_
  refine C.callV x [] [] 0 (B.1 _ (List.mem_of_getElem? (i := 79) rfl)) (B.1 _ (List.mem_of_getElem? (i := 80) rfl)) (B.1 _ (List.mem_of_getElem? (i := 82) rfl)) (B.1 _ (List.mem_of_getElem? (i := 81) rfl)) (by decide) rfl Ex pd__28__29_Z rfl id (c_isLat B Cx) d17_1 rfl rfl rfl (by decide) (by decide) (by decide) (by decide) all0 fun v1 h1 z1 K1 q1 => ?_
  obtain ⟨rfl, rfl⟩ := q1
  show C.W h [] 0 0 (mkF K.m 4 #[.val (.ref x), .val (.int i)] [.int (if cx = 0 then (1 : Int32) else 0)])
  refine C.ifc_eq 16 d17_4 (by decide) (by decide) (fun q2 => ?_) (fun q2 => ?_)
  · have hcx : cx = 1 := codx.cd.resolve_left fun e => by rw [if_pos e] at q2; revert q2; decide
    obtain ⟨rfl, hpx⟩ := codx.wid hcx
    refine C.aloadN d17_16 rfl rfl ?_
    refine C.getF (host := "") (Or.inl (B.1 _ (List.mem_of_getElem? (i := 28) rfl))) Via.refl Vx d17_17 ?_
    refine C.iloadN d17_20 rfl ?_
    refine C.callS [.ref tx, .int i] [] 0 (B.1 _ (List.mem_of_getElem? (i := 84) rfl)) (B.1 _ (List.mem_of_getElem? (i := 85) rfl)) (B.1 _ (List.mem_of_getElem? (i := 17) rfl)) (B.1 _ (List.mem_of_getElem? (i := 86) rfl)) (by decide) pd__28__5b_BI_29_C rfl id (c_ucha B Ax hi hc (hpx c (List.mem_of_getElem? hc))) d17_21 rfl rfl rfl (by decide) (by decide) (by decide) (by decide) all0 fun v3 h3 z3 K3 q3 => ?_
    obtain ⟨rfl, rfl⟩ := q3
    show C.W h [] 0 0 (mkF K.m 24 #[.val (.ref x), .val (.int i)] [.int c])
    have hb := hpx c (List.mem_of_getElem? hc)
    exact C.ireturn (t := .char) rfl (by simp) (nchar hb.1 hb.2) d17_24 (by decide) (by decide) ⟨rfl, rfl⟩
  · have hcx : cx = 0 := Classical.byContradiction fun e => by rw [if_neg e] at q2; exact q2 rfl
    obtain ⟨rfl, hpx⟩ := codx.lo hcx
    have hb := hpx c (List.mem_of_getElem? hc)
    refine C.aloadN d17_7 rfl rfl ?_
    refine C.getF (host := "") (Or.inl (B.1 _ (List.mem_of_getElem? (i := 28) rfl))) Via.refl Vx d17_8 ?_
    refine C.iloadN d17_11 rfl ?_
    refine C.callS [.ref tx, .int i] [] 0 (B.1 _ (List.mem_of_getElem? (i := 113) rfl)) (B.1 _ (List.mem_of_getElem? (i := 114) rfl)) (B.1 _ (List.mem_of_getElem? (i := 115) rfl)) (B.1 _ (List.mem_of_getElem? (i := 116) rfl)) (by decide) pd__28__5b_BI_29_C rfl id (c_l1cha B Ax hi hc hb) d17_12 rfl rfl rfl (by decide) (by decide) (by decide) (by decide) all0 fun v4 h4 z4 K4 q4 => ?_
    obtain ⟨rfl, rfl⟩ := q4
    show C.W h [] 0 0 (mkF K.m 15 #[.val (.ref x), .val (.int i)] [.int c])
    exact C.ireturn (t := .char) rfl (by simp) (nchar (by omega) (by omega)) d17_15 (by decide) (by decide) ⟨rfl, rfl⟩
def UL (c : Int32) : Int32 := if c.toInt < 128 then 1 else if c.toInt < 2048 ∨ (55296 ≤ c.toInt ∧ c.toInt < 57344) then 2 else 3
def usum (cs : List Int32) : Int32 := cs.foldl (fun a c => a + UL c) 0
theorem usum_snoc (cs : List Int32) (c : Int32) : usum (cs ++ [c]) = usum cs + UL c := by simp [usum]
theorem usum4 {i j : Int32} {c0 c1 c2 c3 : Int32} (h0 : 0 ≤ i.toInt) (h1 : i.toInt ≤ j.toInt) (h2 : j.toInt ≤ 4) : usum (([c0, c1, c2, c3].take j.toInt.toNat).drop i.toInt.toNat) = (if i.toInt ≤ (0 : Int32).toInt ∧ (0 : Int32).toInt < j.toInt then UL c0 else 0) + (if i.toInt ≤ (1 : Int32).toInt ∧ (1 : Int32).toInt < j.toInt then UL c1 else 0) + (if i.toInt ≤ (2 : Int32).toInt ∧ (2 : Int32).toInt < j.toInt then UL c2 else 0) + (if i.toInt ≤ (3 : Int32).toInt ∧ (3 : Int32).toInt < j.toInt then UL c3 else 0) := by
  have k0 : (0 : Int32).toInt = 0 := by decide
  have k1 : (1 : Int32).toInt = 1 := by decide
  have k2 : (2 : Int32).toInt = 2 := by decide
  have k3 : (3 : Int32).toInt = 3 := by decide
  rw [k0, k1, k2, k3]
  have ci : i.toInt = 0 ∨ i.toInt = 1 ∨ i.toInt = 2 ∨ i.toInt = 3 ∨ i.toInt = 4 := by omega
  have cj : j.toInt = 0 ∨ j.toInt = 1 ∨ j.toInt = 2 ∨ j.toInt = 3 ∨ j.toInt = 4 := by omega
  generalize i.toInt = a at *
  generalize j.toInt = b at *
  rcases ci with rfl | rfl | rfl | rfl | rfl <;> rcases cj with rfl | rfl | rfl | rfl | rfl <;> first | (exfalso; omega) | simp [usum]
set_option maxRecDepth 65536 in
set_option maxHeartbeats 40000000 in
theorem c_surr  (B : Base Z a0) {h : Heap} {c : Int32} : Con l Z a0 EL it n0 (⟨"java/lang/Character", "isSurrogate", "(C)Z"⟩ : MethodName) 1 12 0 0 #[.int c] h [] (fun v h' => v = some (.int (if 55296 ≤ c.toInt ∧ c.toInt < 57344 then 1 else 0)) ∧ h = h') := by
  refine Met.con (bytes := jdk_89_method_16_code) (maxL := 1) (ret := (some .boolean)) (rm := ({ frames := 0, cells := 0, slots := 0, locals := 0 } : Room)) (Met.of (own := "java/lang/Character") (nm := "isSurrogate") #[.val (.int c)] (ew B) rfl rfl (plainFor_of_name pn_java_lang_Character) (fun m => by first | (simp [entryFrame, mkF, argsToLocals, Value.category]; done) | rfl) fun K C => ?_) (B.1 _ (List.mem_of_getElem? (i := 107) rfl)) (B.1 _ (List.mem_of_getElem? (i := 106) rfl)) rfl rfl rfl rfl
  have k55296 : (55296 : Int32).toInt = 55296 := by decide
  have k57344 : (57344 : Int32).toInt = 57344 := by decide
  refine C.iloadN d18_0 rfl ?_
  refine C.ldcInt (v := (55296 : Int32)) (B.1 _ (List.mem_of_getElem? (i := 108) rfl)) d18_1 ?_
  refine C.icmp_lt 16 d18_3 (by decide) (by decide) (fun q1 => ?_) (fun q1 => ?_)
  · refine C.iconst (v := (0 : Int32)) d18_16 (by first | rfl | decide) ?_
    exact C.ireturn (t := .boolean) rfl (by simp) rfl d18_17 (by decide) (by decide) ⟨by rw [if_neg (by omega)], rfl⟩
  · refine C.iloadN d18_6 rfl ?_
    refine C.ldcInt (v := (57344 : Int32)) (B.1 _ (List.mem_of_getElem? (i := 118) rfl)) d18_7 ?_
    refine C.icmp_ge 16 d18_9 (by decide) (by decide) (fun q2 => ?_) (fun q2 => ?_)
    · refine C.iconst (v := (0 : Int32)) d18_16 (by first | rfl | decide) ?_
      exact C.ireturn (t := .boolean) rfl (by simp) rfl d18_17 (by decide) (by decide) ⟨by rw [if_neg (by omega)], rfl⟩
    · refine C.iconst (v := (1 : Int32)) d18_12 (by first | rfl | decide) ?_
      refine C.goto 17 d18_13 (by decide) (by decide) ?_
      exact C.ireturn (t := .boolean) rfl (by simp) rfl d18_17 (by decide) (by decide) ⟨by rw [if_pos (by omega)], rfl⟩
set_option maxRecDepth 65536 in
set_option maxHeartbeats 40000000 in
theorem c_u8  (B : Base Z a0) {h : Heap} {c : Int32} : Con l Z a0 EL it n0 (⟨"com/example/tranche/tranche/document/SourceLine", "utf8Length", "(C)I"⟩ : MethodName) 2 25 0 0 #[.int c] h [] (fun v h' => v = some (.int (UL c)) ∧ h = h') := by
  refine Met.con (bytes := prog_23_method_9_code) (maxL := 2) (ret := (some .int)) (rm := ({ frames := 1, cells := 0, slots := 0, locals := 12 } : Room)) (Met.of (own := "com/example/tranche/tranche/document/SourceLine") (nm := "utf8Length") #[.val (.int c), .unset] (ew B) rfl rfl (plainFor_of_name pn_com_example_tranche_tranche_document_SourceLine) (fun m => by first | (simp [entryFrame, mkF, argsToLocals, Value.category]; done) | rfl) fun K C => ?_) (B.1 _ (List.mem_of_getElem? (i := 103) rfl)) (B.1 _ (List.mem_of_getElem? (i := 33) rfl)) rfl rfl rfl rfl
  have k128 : (128 : Int32).toInt = 128 := by decide
  have k2048 : (2048 : Int32).toInt = 2048 := by decide
  refine C.iloadN d19_0 rfl ?_
  refine C.sipush (v := (128 : Int32)) d19_1 (by first | rfl | decide) ?_
  refine C.icmp_ge 12 d19_4 (by decide) (by decide) (fun q1 => ?_) (fun q1 => ?_)
  · refine C.iloadN d19_12 rfl ?_
    refine C.sipush (v := (2048 : Int32)) d19_13 (by first | rfl | decide) ?_
    refine C.icmp_lt 26 d19_16 (by decide) (by decide) (fun q2 => ?_) (fun q2 => ?_)
    · refine C.iconst (v := (2 : Int32)) d19_26 (by first | rfl | decide) ?_
      refine C.istoreN #[.val (.int c), .val (.int (2 : Int32))] d19_27 rfl ?_
      refine C.goto 33 d19_28 (by decide) (by decide) ?_
      refine C.iloadN d19_33 rfl ?_
      exact C.ireturn (t := .int) rfl (by simp) rfl d19_34 (by decide) (by decide) ⟨by unfold UL; rw [if_neg (by omega), if_pos (by omega)], rfl⟩
    · refine C.iloadN d19_19 rfl ?_
      refine C.callS [.int c] [] 0 (B.1 _ (List.mem_of_getElem? (i := 104) rfl)) (B.1 _ (List.mem_of_getElem? (i := 105) rfl)) (B.1 _ (List.mem_of_getElem? (i := 106) rfl)) (B.1 _ (List.mem_of_getElem? (i := 107) rfl)) (by decide) pd__28_C_29_Z rfl id (c_surr B (c := c)) d19_20 rfl rfl rfl (by decide) (by decide) (by decide) (by decide) all0 fun v3 h3 z3 K3 q3 => ?_
      obtain ⟨rfl, rfl⟩ := q3
      show C.W h [] 0 0 (mkF K.m 23 #[.val (.int c), .unset] [.int (if 55296 ≤ c.toInt ∧ c.toInt < 57344 then (1 : Int32) else 0)])
      refine C.ifc_eq 31 d19_23 (by decide) (by decide) (fun q5 => ?_) (fun q5 => ?_)
      · have hb4 : ¬ (55296 ≤ c.toInt ∧ c.toInt < 57344) := fun e => by rw [if_pos e] at q5; revert q5; decide
        refine C.iconst (v := (3 : Int32)) d19_31 (by first | rfl | decide) ?_
        refine C.istoreN #[.val (.int c), .val (.int (3 : Int32))] d19_32 rfl ?_
        refine C.iloadN d19_33 rfl ?_
        exact C.ireturn (t := .int) rfl (by simp) rfl d19_34 (by decide) (by decide) ⟨by unfold UL; rw [if_neg (by omega), if_neg (by omega)], rfl⟩
      · have hb4 : 55296 ≤ c.toInt ∧ c.toInt < 57344 := Classical.byContradiction fun e => by rw [if_neg e] at q5; exact q5 rfl
        refine C.iconst (v := (2 : Int32)) d19_26 (by first | rfl | decide) ?_
        refine C.istoreN #[.val (.int c), .val (.int (2 : Int32))] d19_27 rfl ?_
        refine C.goto 33 d19_28 (by decide) (by decide) ?_
        refine C.iloadN d19_33 rfl ?_
        exact C.ireturn (t := .int) rfl (by simp) rfl d19_34 (by decide) (by decide) ⟨by unfold UL; rw [if_neg (by omega), if_pos (by omega)], rfl⟩
  · refine C.iconst (v := (1 : Int32)) d19_7 (by first | rfl | decide) ?_
    refine C.istoreN #[.val (.int c), .val (.int (1 : Int32))] d19_8 rfl ?_
    refine C.goto 33 d19_9 (by decide) (by decide) ?_
    refine C.iloadN d19_33 rfl ?_
    exact C.ireturn (t := .int) rfl (by simp) rfl d19_34 (by decide) (by decide) ⟨by unfold UL; rw [if_pos (by omega)], rfl⟩
set_option maxRecDepth 65536 in
set_option maxHeartbeats 40000000 in
theorem c_len  (B : Base Z a0) {h : Heap} {c : Int32} : Con l Z a0 EL it n0 (⟨"com/example/tranche/tranche/document/SourceLineBytesBetweenPinLaw", "len", "(C)I"⟩ : MethodName) 1 12 0 0 #[.int c] h [] (fun v h' => v = some (.int (UL c)) ∧ h = h') := by
  refine Met.con (bytes := method_2_code) (maxL := 1) (ret := (some .int)) (rm := ({ frames := 0, cells := 0, slots := 0, locals := 0 } : Room)) (Met.of (own := "com/example/tranche/tranche/document/SourceLineBytesBetweenPinLaw") (nm := "len") #[.val (.int c)] (ew B) rfl rfl (plainFor_of_name pn_com_example_tranche_tranche_document_SourceLineBytesBetweenPinLaw) (fun m => by first | (simp [entryFrame, mkF, argsToLocals, Value.category]; done) | rfl) fun K C => ?_) (B.1 _ (List.mem_of_getElem? (i := 111) rfl)) (B.1 _ (List.mem_of_getElem? (i := 53) rfl)) rfl rfl rfl rfl
  have k127 : (127 : Int32).toInt = 127 := by decide
  have k2047 : (2047 : Int32).toInt = 2047 := by decide
  have k55296 : (55296 : Int32).toInt = 55296 := by decide
  have k57343 : (57343 : Int32).toInt = 57343 := by decide
  refine C.iloadN d20_0 rfl ?_
  refine C.bipush (v := (127 : Int32)) d20_1 (by first | rfl | decide) ?_
  refine C.icmp_gt 8 d20_3 (by decide) (by decide) (fun q1 => ?_) (fun q1 => ?_)
  · refine C.iloadN d20_8 rfl ?_
    refine C.sipush (v := (2047 : Int32)) d20_9 (by first | rfl | decide) ?_
    refine C.icmp_gt 17 d20_12 (by decide) (by decide) (fun q2 => ?_) (fun q2 => ?_)
    · refine C.iloadN d20_17 rfl ?_
      refine C.ldcInt (v := (55296 : Int32)) (B.1 _ (List.mem_of_getElem? (i := 112) rfl)) d20_18 ?_
      refine C.icmp_lt 31 d20_20 (by decide) (by decide) (fun q3 => ?_) (fun q3 => ?_)
      · refine C.iconst (v := (3 : Int32)) d20_31 (by first | rfl | decide) ?_
        exact C.ireturn (t := .int) rfl (by simp) rfl d20_32 (by decide) (by decide) ⟨by unfold UL; rw [if_neg (by omega), if_neg (by omega)], rfl⟩
      · refine C.iloadN d20_23 rfl ?_
        refine C.ldcInt (v := (57343 : Int32)) (B.1 _ (List.mem_of_getElem? (i := 119) rfl)) d20_24 ?_
        refine C.icmp_gt 31 d20_26 (by decide) (by decide) (fun q4 => ?_) (fun q4 => ?_)
        · refine C.iconst (v := (3 : Int32)) d20_31 (by first | rfl | decide) ?_
          exact C.ireturn (t := .int) rfl (by simp) rfl d20_32 (by decide) (by decide) ⟨by unfold UL; rw [if_neg (by omega), if_neg (by omega)], rfl⟩
        · refine C.iconst (v := (2 : Int32)) d20_29 (by first | rfl | decide) ?_
          exact C.ireturn (t := .int) rfl (by simp) rfl d20_30 (by decide) (by decide) ⟨by unfold UL; rw [if_neg (by omega), if_pos (by omega)], rfl⟩
    · refine C.iconst (v := (2 : Int32)) d20_15 (by first | rfl | decide) ?_
      exact C.ireturn (t := .int) rfl (by simp) rfl d20_16 (by decide) (by decide) ⟨by unfold UL; rw [if_neg (by omega), if_pos (by omega)], rfl⟩
  · refine C.iconst (v := (1 : Int32)) d20_6 (by first | rfl | decide) ?_
    exact C.ireturn (t := .int) rfl (by simp) rfl d20_7 (by decide) (by decide) ⟨by unfold UL; rw [if_pos (by omega)], rfl⟩
set_option maxRecDepth 65536 in
set_option maxHeartbeats 40000000 in
theorem c_part  (B : Base Z a0) {h : Heap} {q i j c : Int32} : Con l Z a0 EL it n0 (⟨"com/example/tranche/tranche/document/SourceLineBytesBetweenPinLaw", "part", "(IIIC)I"⟩ : MethodName) 2 27 0 0 #[.int q, .int i, .int j, .int c] h [] (fun v h' => v = some (.int (if i.toInt ≤ q.toInt ∧ q.toInt < j.toInt then UL c else 0)) ∧ h = h') := by
  refine Met.con (bytes := method_3_code) (maxL := 4) (ret := (some .int)) (rm := ({ frames := 1, cells := 0, slots := 0, locals := 12 } : Room)) (Met.of (own := "com/example/tranche/tranche/document/SourceLineBytesBetweenPinLaw") (nm := "part") #[.val (.int q), .val (.int i), .val (.int j), .val (.int c)] (ew B) rfl rfl (plainFor_of_name pn_com_example_tranche_tranche_document_SourceLineBytesBetweenPinLaw) (fun m => by first | (simp [entryFrame, mkF, argsToLocals, Value.category]; done) | rfl) fun K C => ?_) (B.1 _ (List.mem_of_getElem? (i := 54) rfl)) (B.1 _ (List.mem_of_getElem? (i := 53) rfl)) rfl rfl rfl rfl
  refine C.iloadN d21_0 rfl ?_
  refine C.iloadN d21_1 rfl ?_
  refine C.icmp_gt 15 d21_2 (by decide) (by decide) (fun q1 => ?_) (fun q1 => ?_)
  · refine C.iconst (v := (0 : Int32)) d21_15 (by first | rfl | decide) ?_
    exact C.ireturn (t := .int) rfl (by simp) rfl d21_16 (by decide) (by decide) ⟨by rw [if_neg (by omega)], rfl⟩
  · refine C.iloadN d21_5 rfl ?_
    refine C.iloadN d21_6 rfl ?_
    refine C.icmp_ge 15 d21_7 (by decide) (by decide) (fun q2 => ?_) (fun q2 => ?_)
    · refine C.iconst (v := (0 : Int32)) d21_15 (by first | rfl | decide) ?_
      exact C.ireturn (t := .int) rfl (by simp) rfl d21_16 (by decide) (by decide) ⟨by rw [if_neg (by omega)], rfl⟩
    · refine C.iloadN d21_10 rfl ?_
      refine C.callS [.int c] [] 0 (B.1 _ (List.mem_of_getElem? (i := 109) rfl)) (B.1 _ (List.mem_of_getElem? (i := 110) rfl)) (B.1 _ (List.mem_of_getElem? (i := 53) rfl)) (B.1 _ (List.mem_of_getElem? (i := 111) rfl)) (by decide) pd__28_C_29_I rfl id (c_len B (c := c)) d21_11 rfl rfl rfl (by decide) (by decide) (by decide) (by decide) all0 fun v3 h3 z3 K3 q3 => ?_
      obtain ⟨rfl, rfl⟩ := q3
      show C.W h [] 0 0 (mkF K.m 14 #[.val (.int q), .val (.int i), .val (.int j), .val (.int c)] [.int (UL c)])
      exact C.ireturn (t := .int) rfl (by simp) rfl d21_14 (by decide) (by decide) ⟨by rw [if_pos (by omega)], rfl⟩
set_option maxRecDepth 65536 in
set_option maxHeartbeats 40000000 in
theorem c_slinit  (B : Base Z a0) {h : Heap} {a x : Nat} {nu sa en : Int32} (Ea : Exa Z h a "com/example/tranche/tranche/document/SourceLine") (F0 : Fld Z h a "com/example/tranche/tranche/document/SourceLine" "number" "I" (.int 0)) (F1 : Fld Z h a "com/example/tranche/tranche/document/SourceLine" "text" "Ljava/lang/String;" .null) (F2 : Fld Z h a "com/example/tranche/tranche/document/SourceLine" "start" "I" (.int 0)) (F3 : Fld Z h a "com/example/tranche/tranche/document/SourceLine" "end" "I" (.int 0)) : Con l Z a0 EL it n0 (⟨"com/example/tranche/tranche/document/SourceLine", "<init>", "(ILjava/lang/String;II)V"⟩ : MethodName) 2 28 0 0 #[.ref a, .int nu, .ref x, .int sa, .int en] h [a] (fun v h' => v = none ∧ Exa Z h' a "com/example/tranche/tranche/document/SourceLine" ∧ Fld Z h' a "com/example/tranche/tranche/document/SourceLine" "text" "Ljava/lang/String;" (.ref x)) := by
  refine Met.con (bytes := prog_23_method_1_code) (maxL := 5) (ret := none) (rm := ({ frames := 1, cells := 0, slots := 0, locals := 12 } : Room)) (Met.of (own := "com/example/tranche/tranche/document/SourceLine") (nm := "<init>") #[.val (.ref a), .val (.int nu), .val (.ref x), .val (.int sa), .val (.int en)] (ew B) rfl rfl (plainFor_of_name pn_com_example_tranche_tranche_document_SourceLine) (fun m => by first | (simp [entryFrame, mkF, argsToLocals, Value.category]; done) | rfl) fun K C => ?_) (B.1 _ (List.mem_of_getElem? (i := 36) rfl)) (B.1 _ (List.mem_of_getElem? (i := 33) rfl)) rfl rfl rfl rfl
  refine C.aloadN d22_0 rfl rfl ?_
  refine C.initO 0 (B.1 _ (List.mem_of_getElem? (i := 37) rfl)) (B.1 _ (List.mem_of_getElem? (i := 12) rfl)) (B.1 _ (List.mem_of_getElem? (i := 13) rfl)) d22_1 rfl rfl (by decide) (by decide) ?_
  show C.W h [a] 0 0 (mkF K.m 4 #[.val (.ref a), .val (.int nu), .val (.ref x), .val (.int sa), .val (.int en)] [])
  refine C.aloadN d22_4 rfl rfl ?_
  refine C.iloadN d22_5 rfl ?_
  refine C.putF (host := "") (Or.inl (B.1 _ (List.mem_of_getElem? (i := 38) rfl))) Via.refl F0 Ea (Or.inr ⟨(B.1 _ (List.mem_of_getElem? (i := 39) rfl)), rfl, rfl⟩) (B.1 _ (List.mem_of_getElem? (i := 32) rfl)) (ty := .int) (by decide) rfl rfl d22_6 (List.mem_of_getElem? (i := 0) rfl) fun h1 z1 K1 Ew1 Fw1 Gw1 => ?_
  have F1_2 := Gw1 (slot_ne (Or.inr (B.1 _ (List.mem_of_getElem? (i := 41) rfl))) (Or.inr (B.1 _ (List.mem_of_getElem? (i := 39) rfl))) (by decide) (t := (.object "java/lang/String")) (t' := .int) (by decide) (by decide)) F1
  have F2_3 := Gw1 (slot_ne (Or.inr (B.1 _ (List.mem_of_getElem? (i := 43) rfl))) (Or.inr (B.1 _ (List.mem_of_getElem? (i := 39) rfl))) (by decide) (t := .int) (t' := .int) (by decide) (by decide)) F2
  have F3_4 := Gw1 (slot_ne (Or.inr (B.1 _ (List.mem_of_getElem? (i := 45) rfl))) (Or.inr (B.1 _ (List.mem_of_getElem? (i := 39) rfl))) (by decide) (t := .int) (t' := .int) (by decide) (by decide)) F3
  show C.W h1 [a] 0 0 (mkF K.m 9 #[.val (.ref a), .val (.int nu), .val (.ref x), .val (.int sa), .val (.int en)] [])
  refine C.aloadN d22_9 rfl rfl ?_
  refine C.aloadN d22_10 rfl rfl ?_
  refine C.putF (host := "") (Or.inl (B.1 _ (List.mem_of_getElem? (i := 40) rfl))) Via.refl F1_2 Ew1 (Or.inr ⟨(B.1 _ (List.mem_of_getElem? (i := 41) rfl)), rfl, rfl⟩) (B.1 _ (List.mem_of_getElem? (i := 32) rfl)) (ty := (.object "java/lang/String")) (by decide) rfl rfl d22_11 (List.mem_of_getElem? (i := 0) rfl) fun h5 z5 K5 Ew5 Fw5 Gw5 => ?_
  have F2_6 := Gw5 (slot_ne (Or.inr (B.1 _ (List.mem_of_getElem? (i := 43) rfl))) (Or.inr (B.1 _ (List.mem_of_getElem? (i := 41) rfl))) (by decide) (t := .int) (t' := (.object "java/lang/String")) (by decide) (by decide)) F2_3
  have F3_7 := Gw5 (slot_ne (Or.inr (B.1 _ (List.mem_of_getElem? (i := 45) rfl))) (Or.inr (B.1 _ (List.mem_of_getElem? (i := 41) rfl))) (by decide) (t := .int) (t' := (.object "java/lang/String")) (by decide) (by decide)) F3_4
  show C.W h5 [a] 0 0 (mkF K.m 14 #[.val (.ref a), .val (.int nu), .val (.ref x), .val (.int sa), .val (.int en)] [])
  refine C.aloadN d22_14 rfl rfl ?_
  refine C.iloadN d22_15 rfl ?_
  refine C.putF (host := "") (Or.inl (B.1 _ (List.mem_of_getElem? (i := 42) rfl))) Via.refl F2_6 Ew5 (Or.inr ⟨(B.1 _ (List.mem_of_getElem? (i := 43) rfl)), rfl, rfl⟩) (B.1 _ (List.mem_of_getElem? (i := 32) rfl)) (ty := .int) (by decide) rfl rfl d22_16 (List.mem_of_getElem? (i := 0) rfl) fun h8 z8 K8 Ew8 Fw8 Gw8 => ?_
  have F1_9 := Gw8 (slot_ne (Or.inr (B.1 _ (List.mem_of_getElem? (i := 41) rfl))) (Or.inr (B.1 _ (List.mem_of_getElem? (i := 43) rfl))) (by decide) (t := (.object "java/lang/String")) (t' := .int) (by decide) (by decide)) Fw5
  have F3_10 := Gw8 (slot_ne (Or.inr (B.1 _ (List.mem_of_getElem? (i := 45) rfl))) (Or.inr (B.1 _ (List.mem_of_getElem? (i := 43) rfl))) (by decide) (t := .int) (t' := .int) (by decide) (by decide)) F3_7
  show C.W h8 [a] 0 0 (mkF K.m 19 #[.val (.ref a), .val (.int nu), .val (.ref x), .val (.int sa), .val (.int en)] [])
  refine C.aloadN d22_19 rfl rfl ?_
  refine C.iload d22_20 rfl ?_
  refine C.putF (host := "") (Or.inl (B.1 _ (List.mem_of_getElem? (i := 44) rfl))) Via.refl F3_10 Ew8 (Or.inr ⟨(B.1 _ (List.mem_of_getElem? (i := 45) rfl)), rfl, rfl⟩) (B.1 _ (List.mem_of_getElem? (i := 32) rfl)) (ty := .int) (by decide) rfl rfl d22_22 (List.mem_of_getElem? (i := 0) rfl) fun h11 z11 K11 Ew11 Fw11 Gw11 => ?_
  have F1_12 := Gw11 (slot_ne (Or.inr (B.1 _ (List.mem_of_getElem? (i := 41) rfl))) (Or.inr (B.1 _ (List.mem_of_getElem? (i := 45) rfl))) (by decide) (t := (.object "java/lang/String")) (t' := .int) (by decide) (by decide)) F1_9
  show C.W h11 [a] 0 0 (mkF K.m 25 #[.val (.ref a), .val (.int nu), .val (.ref x), .val (.int sa), .val (.int en)] [])
  exact C.return_ rfl d22_25 (by decide) (by decide) ⟨rfl, Ew11, F1_12⟩
set_option maxRecDepth 65536 in
set_option maxHeartbeats 40000000 in
theorem c_bb  (B : Base Z a0) {h : Heap} {N a x : Nat} {i j : Int32} {cs : List Int32} (F : Fld Z h a "com/example/tranche/tranche/document/SourceLine" "text" "Ljava/lang/String;" (.ref x)) (S : Str Z h N x cs) (h0 : 0 ≤ i.toInt) (h1 : i.toInt ≤ j.toInt) (h2 : j.toInt ≤ cs.length) : Con l Z a0 EL it n0 (⟨"com/example/tranche/tranche/document/SourceLine", "bytesBetween", "(II)I"⟩ : MethodName) 6 83 0 0 #[.ref a, .int i, .int j] h [] (fun v h' => v = some (.int (usum ((cs.take j.toInt.toNat).drop i.toInt.toNat))) ∧ h = h') := by
  refine Met.con (bytes := prog_23_method_8_code) (maxL := 5) (ret := (some .int)) (rm := ({ frames := 5, cells := 0, slots := 0, locals := 67 } : Room)) (Met.of (own := "com/example/tranche/tranche/document/SourceLine") (nm := "bytesBetween") #[.val (.ref a), .val (.int i), .val (.int j), .unset, .unset] (ew B) rfl rfl (plainFor_of_name pn_com_example_tranche_tranche_document_SourceLine) (fun m => by first | (simp [entryFrame, mkF, argsToLocals, Value.category]; done) | rfl) fun K C => ?_) (B.1 _ (List.mem_of_getElem? (i := 50) rfl)) (B.1 _ (List.mem_of_getElem? (i := 33) rfl)) rfl rfl rfl rfl
  have Ex := S.exa
  have hj := Int32.toInt_lt j
  refine C.iconst (v := (0 : Int32)) d23_0 (by first | rfl | decide) ?_
  refine C.istoreN #[.val (.ref a), .val (.int i), .val (.int j), .val (.int (0 : Int32)), .unset] d23_1 rfl ?_
  refine C.iloadN d23_2 rfl ?_
  refine C.istore #[.val (.ref a), .val (.int i), .val (.int j), .val (.int (0 : Int32)), .val (.int i)] d23_3 rfl ?_
  have ei : i = Int32.ofNat i.toInt.toNat := Int32.toInt_inj.mp (by rw [ofNat_int (by omega)]; omega)
  suffices LOOP : ∀ (f k : Nat) (t : Int32), f + k = j.toInt.toNat → i.toInt.toNat ≤ k → t = usum ((cs.take k).drop i.toInt.toNat) → C.W h [] 0 0 (mkF K.m 5 #[.val (.ref a), .val (.int i), .val (.int j), .val (.int t), .val (.int (Int32.ofNat k))] []) by
    have q := LOOP (j.toInt.toNat - i.toInt.toNat) i.toInt.toNat 0 (by omega) (Nat.le_refl _) (by rw [List.drop_of_length_le (by rw [List.length_take]; omega)]; rfl)
    rw [← ei] at q
    exact q
  intro f
  induction f with
  | zero =>
    intro k t hf hk ht
    have ek : (Int32.ofNat k).toInt = k := ofNat_int (by omega)
    refine C.iload d23_5 rfl ?_
    refine C.iloadN d23_7 rfl ?_
    refine C.icmp_ge 32 d23_8 (by decide) (by decide) (fun q1 => ?_) (fun q1 => ?_)
    · refine C.iloadN d23_32 rfl ?_
      obtain rfl : k = j.toInt.toNat := by omega
      exact C.ireturn (t := .int) rfl (by simp) rfl d23_33 (by decide) (by decide) ⟨by rw [ht], rfl⟩
    · exfalso; omega
  | succ f ih =>
    intro k t hf hk ht
    have ek : (Int32.ofNat k).toInt = k := ofNat_int (by omega)
    refine C.iload d23_5 rfl ?_
    refine C.iloadN d23_7 rfl ?_
    refine C.icmp_ge 32 d23_8 (by decide) (by decide) (fun q2 => ?_) (fun q2 => ?_)
    · exfalso; omega
    · obtain ⟨c, hc⟩ : ∃ c, cs[k]? = some c := ⟨_, List.getElem?_eq_getElem (by omega)⟩
      refine C.iloadN d23_11 rfl ?_
      refine C.aloadN d23_12 rfl rfl ?_
      refine C.getF (host := "") (Or.inl (B.1 _ (List.mem_of_getElem? (i := 40) rfl))) Via.refl F d23_13 ?_
      refine C.iload d23_16 rfl ?_
      refine C.callV x [.int (Int32.ofNat k)] [.int t] 1 (B.1 _ (List.mem_of_getElem? (i := 74) rfl)) (B.1 _ (List.mem_of_getElem? (i := 75) rfl)) (B.1 _ (List.mem_of_getElem? (i := 77) rfl)) (B.1 _ (List.mem_of_getElem? (i := 76) rfl)) (by decide) rfl Ex pd__28_I_29_C rfl id (c_charAt B S ek hc) d23_18 rfl rfl rfl (by decide) (by decide) (by decide) (by decide) all0 fun v3 h3 z3 K3 q3 => ?_
      obtain ⟨rfl, rfl⟩ := q3
      show C.W h [] 0 0 (mkF K.m 21 #[.val (.ref a), .val (.int i), .val (.int j), .val (.int t), .val (.int (Int32.ofNat k))] [.int c, .int t])
      refine C.callS [.int c] [.int t] 1 (B.1 _ (List.mem_of_getElem? (i := 101) rfl)) (B.1 _ (List.mem_of_getElem? (i := 102) rfl)) (B.1 _ (List.mem_of_getElem? (i := 33) rfl)) (B.1 _ (List.mem_of_getElem? (i := 103) rfl)) (by decide) pd__28_C_29_I rfl id (c_u8 B (c := c)) d23_21 rfl rfl rfl (by decide) (by decide) (by decide) (by decide) all0 fun v4 h4 z4 K4 q4 => ?_
      obtain ⟨rfl, rfl⟩ := q4
      show C.W h [] 0 0 (mkF K.m 24 #[.val (.ref a), .val (.int i), .val (.int j), .val (.int t), .val (.int (Int32.ofNat k))] [.int (UL c), .int t])
      refine C.iadd d23_24 ?_
      refine C.istoreN #[.val (.ref a), .val (.int i), .val (.int j), .val (.int (t + (UL c))), .val (.int (Int32.ofNat k))] d23_25 rfl ?_
      refine C.iinc (z := (1 : Int32)) #[.val (.ref a), .val (.int i), .val (.int j), .val (.int (t + (UL c))), .val (.int ((Int32.ofNat k) + (1 : Int32)))] d23_26 rfl (by first | rfl | decide) rfl ?_
      refine C.goto 5 d23_29 (by decide) (by decide) ?_
      rw [ofNat_succ]
      exact ih (k + 1) _ (by omega) (by omega) (by rw [ht, List.take_add_one, hc, List.drop_append_of_le_length (by rw [List.length_take]; omega)]; exact (usum_snoc _ _).symm)
set_option maxRecDepth 65536 in
set_option maxHeartbeats 40000000 in
theorem m_law  (B : Base Z a0) {u : Int64} {p nu sa en : Int32} {h : Heap} : Met l Z EL False n0 x code maxLocals Jvm.Pilot.@@N@@.ret room_1 tables_1 #[.long u, .int p, .int nu, .int sa, .int en] h [] (fun v h' => v = some (.int 1)) := by
  refine Met.of (own := "com/example/tranche/tranche/document/SourceLineBytesBetweenPinLaw") (nm := "law") #[.val (.long u), .second, .val (.int p), .val (.int nu), .val (.int sa), .val (.int en), .unset, .unset, .unset, .unset, .unset, .unset, .unset, .unset, .unset, .unset, .unset] (ew B) rfl rfl (plainFor_of_name pn_com_example_tranche_tranche_document_SourceLineBytesBetweenPinLaw) (fun m => by first | (simp [entryFrame, mkF, argsToLocals, Value.category, maxLocals]; done) | rfl) fun K C => ?_
  refine C.lloadN at_0 rfl ?_
  refine C.l2i at_1 ?_
  refine C.i2c at_2 ?_
  obtain ⟨c0, e_c0⟩ : ∃ z, u.toInt32.toUInt32.toUInt16.toUInt32.toInt32 = z := ⟨_, rfl⟩
  refine C.topI e_c0 ?_
  have b0 : 0 ≤ c0.toInt ∧ c0.toInt < 65536 := by
    have q := c_i2c u.toInt32
    rw [e_c0] at q
    omega
  refine C.istore #[.val (.long u), .second, .val (.int p), .val (.int nu), .val (.int sa), .val (.int en), .val (.int c0), .unset, .unset, .unset, .unset, .unset, .unset, .unset, .unset, .unset, .unset] at_3 rfl ?_
  refine C.lloadN at_5 rfl ?_
  refine C.bipush (v := (16 : Int32)) at_6 (by first | rfl | decide) ?_
  refine C.lushr at_8 ?_
  refine C.l2i at_9 ?_
  refine C.i2c at_10 ?_
  obtain ⟨c1, e_c1⟩ : ∃ z, (u.toUInt64 >>> ((16 : Int32) &&& 0x3f).toInt64.toUInt64).toInt64.toInt32.toUInt32.toUInt16.toUInt32.toInt32 = z := ⟨_, rfl⟩
  refine C.topI e_c1 ?_
  have b1 : 0 ≤ c1.toInt ∧ c1.toInt < 65536 := by
    have q := c_i2c (u.toUInt64 >>> ((16 : Int32) &&& 0x3f).toInt64.toUInt64).toInt64.toInt32
    rw [e_c1] at q
    omega
  refine C.istore #[.val (.long u), .second, .val (.int p), .val (.int nu), .val (.int sa), .val (.int en), .val (.int c0), .val (.int c1), .unset, .unset, .unset, .unset, .unset, .unset, .unset, .unset, .unset] at_11 rfl ?_
  refine C.lloadN at_13 rfl ?_
  refine C.bipush (v := (32 : Int32)) at_14 (by first | rfl | decide) ?_
  refine C.lushr at_16 ?_
  refine C.l2i at_17 ?_
  refine C.i2c at_18 ?_
  obtain ⟨c2, e_c2⟩ : ∃ z, (u.toUInt64 >>> ((32 : Int32) &&& 0x3f).toInt64.toUInt64).toInt64.toInt32.toUInt32.toUInt16.toUInt32.toInt32 = z := ⟨_, rfl⟩
  refine C.topI e_c2 ?_
  have b2 : 0 ≤ c2.toInt ∧ c2.toInt < 65536 := by
    have q := c_i2c (u.toUInt64 >>> ((32 : Int32) &&& 0x3f).toInt64.toUInt64).toInt64.toInt32
    rw [e_c2] at q
    omega
  refine C.istore #[.val (.long u), .second, .val (.int p), .val (.int nu), .val (.int sa), .val (.int en), .val (.int c0), .val (.int c1), .val (.int c2), .unset, .unset, .unset, .unset, .unset, .unset, .unset, .unset] at_19 rfl ?_
  refine C.lloadN at_21 rfl ?_
  refine C.bipush (v := (48 : Int32)) at_22 (by first | rfl | decide) ?_
  refine C.lushr at_24 ?_
  refine C.l2i at_25 ?_
  refine C.i2c at_26 ?_
  obtain ⟨c3, e_c3⟩ : ∃ z, (u.toUInt64 >>> ((48 : Int32) &&& 0x3f).toInt64.toUInt64).toInt64.toInt32.toUInt32.toUInt16.toUInt32.toInt32 = z := ⟨_, rfl⟩
  refine C.topI e_c3 ?_
  have b3 : 0 ≤ c3.toInt ∧ c3.toInt < 65536 := by
    have q := c_i2c (u.toUInt64 >>> ((48 : Int32) &&& 0x3f).toInt64.toUInt64).toInt64.toInt32
    rw [e_c3] at q
    omega
  refine C.istore #[.val (.long u), .second, .val (.int p), .val (.int nu), .val (.int sa), .val (.int en), .val (.int c0), .val (.int c1), .val (.int c2), .val (.int c3), .unset, .unset, .unset, .unset, .unset, .unset, .unset] at_27 rfl ?_
  refine C.iconst (v := (4 : Int32)) at_29 (by first | rfl | decide) ?_
  refine C.newarr 4 4 (B.1 _ (List.mem_of_getElem? (i := 0) rfl)) at_30 (by first | rfl | decide) (by decide) (by decide) (by decide) (by decide) fun h1 a2 g1 z1 o1 K1 An1 => ?_
  have An1 : Ary Z h1 a2 .char [.int 0, .int 0, .int 0, .int 0] := An1
  show C.W h1 [a2] 1 4 (mkF K.m 32 #[.val (.long u), .second, .val (.int p), .val (.int nu), .val (.int sa), .val (.int en), .val (.int c0), .val (.int c1), .val (.int c2), .val (.int c3), .unset, .unset, .unset, .unset, .unset, .unset, .unset] [.ref a2])
  refine C.astore #[.val (.long u), .second, .val (.int p), .val (.int nu), .val (.int sa), .val (.int en), .val (.int c0), .val (.int c1), .val (.int c2), .val (.int c3), .val (.ref a2), .unset, .unset, .unset, .unset, .unset, .unset] at_32 rfl rfl ?_
  refine C.aload at_34 rfl rfl ?_
  refine C.iconst (v := (0 : Int32)) at_36 (by first | rfl | decide) ?_
  refine C.iload at_37 rfl ?_
  refine C.castore 0 An1 (by first | rfl | decide) (Nat.le_of_ble_eq_true rfl) (by omega) (by omega) at_39 (List.mem_of_getElem? (i := 0) rfl) fun h3 z3 K3 Aw3 => ?_
  have Aw3 : Ary Z h3 a2 .char [.int c0, .int 0, .int 0, .int 0] := Aw3
  show C.W h3 [a2] 1 4 (mkF K.m 40 #[.val (.long u), .second, .val (.int p), .val (.int nu), .val (.int sa), .val (.int en), .val (.int c0), .val (.int c1), .val (.int c2), .val (.int c3), .val (.ref a2), .unset, .unset, .unset, .unset, .unset, .unset] [])
  refine C.aload at_40 rfl rfl ?_
  refine C.iconst (v := (1 : Int32)) at_42 (by first | rfl | decide) ?_
  refine C.iload at_43 rfl ?_
  refine C.castore 1 Aw3 (by first | rfl | decide) (Nat.le_of_ble_eq_true rfl) (by omega) (by omega) at_45 (List.mem_of_getElem? (i := 0) rfl) fun h4 z4 K4 Aw4 => ?_
  have Aw4 : Ary Z h4 a2 .char [.int c0, .int c1, .int 0, .int 0] := Aw4
  show C.W h4 [a2] 1 4 (mkF K.m 46 #[.val (.long u), .second, .val (.int p), .val (.int nu), .val (.int sa), .val (.int en), .val (.int c0), .val (.int c1), .val (.int c2), .val (.int c3), .val (.ref a2), .unset, .unset, .unset, .unset, .unset, .unset] [])
  refine C.aload at_46 rfl rfl ?_
  refine C.iconst (v := (2 : Int32)) at_48 (by first | rfl | decide) ?_
  refine C.iload at_49 rfl ?_
  refine C.castore 2 Aw4 (by first | rfl | decide) (Nat.le_of_ble_eq_true rfl) (by omega) (by omega) at_51 (List.mem_of_getElem? (i := 0) rfl) fun h5 z5 K5 Aw5 => ?_
  have Aw5 : Ary Z h5 a2 .char [.int c0, .int c1, .int c2, .int 0] := Aw5
  show C.W h5 [a2] 1 4 (mkF K.m 52 #[.val (.long u), .second, .val (.int p), .val (.int nu), .val (.int sa), .val (.int en), .val (.int c0), .val (.int c1), .val (.int c2), .val (.int c3), .val (.ref a2), .unset, .unset, .unset, .unset, .unset, .unset] [])
  refine C.aload at_52 rfl rfl ?_
  refine C.iconst (v := (3 : Int32)) at_54 (by first | rfl | decide) ?_
  refine C.iload at_55 rfl ?_
  refine C.castore 3 Aw5 (by first | rfl | decide) (Nat.le_of_ble_eq_true rfl) (by omega) (by omega) at_57 (List.mem_of_getElem? (i := 0) rfl) fun h6 z6 K6 Aw6 => ?_
  have Aw6 : Ary Z h6 a2 .char [.int c0, .int c1, .int c2, .int c3] := Aw6
  show C.W h6 [a2] 1 4 (mkF K.m 58 #[.val (.long u), .second, .val (.int p), .val (.int nu), .val (.int sa), .val (.int en), .val (.int c0), .val (.int c1), .val (.int c2), .val (.int c3), .val (.ref a2), .unset, .unset, .unset, .unset, .unset, .unset] [])
  refine C.new (B.1 _ (List.mem_of_getElem? (i := 1) rfl)) (B.1 _ (List.mem_of_getElem? (i := 2) rfl)) (B.1 _ (List.mem_of_getElem? (i := 3) rfl)) at_58 (by decide) (by decide) fun h7 a8 g7 z7 o7 K7 En7 Dn7 => ?_
  show C.W h7 [a8, a2] 2 8 (mkF K.m 61 #[.val (.long u), .second, .val (.int p), .val (.int nu), .val (.int sa), .val (.int en), .val (.int c0), .val (.int c1), .val (.int c2), .val (.int c3), .val (.ref a2), .unset, .unset, .unset, .unset, .unset, .unset] [.ref a8])
  have Fv : Fld Z h7 a8 "java/lang/String" "value" "[B" (.null) := Dn7 (Or.inr (B.1 _ (List.mem_of_getElem? (i := 29) rfl))) (ty := (.array .byte)) (by decide)
  have Fc : Fld Z h7 a8 "java/lang/String" "coder" "B" (.int 0) := Dn7 (Or.inr (B.1 _ (List.mem_of_getElem? (i := 27) rfl))) (ty := .byte) (by decide)
  refine C.dup rfl at_61 ?_
  refine C.aload at_62 rfl rfl ?_
  have An1_9 := (Aw6.keep K7 nin0)
  refine C.callN a8 [.ref a2] [.ref a8] 1 (B.1 _ (List.mem_of_getElem? (i := 4) rfl)) (B.1 _ (List.mem_of_getElem? (i := 5) rfl)) (B.1 _ (List.mem_of_getElem? (i := 6) rfl)) rfl (by decide) pd__28__5b_C_29_V rfl id (c_init1 B (cs := [c0, c1, c2, c3]) En7 Fv Fc An1_9 (Nat.le_of_ble_eq_true rfl) (by simp; omega) (List.cons_ne_nil _ _)) at_64 rfl rfl rfl (by decide) (by decide) (by decide) (by decide) (allS (List.mem_of_getElem? (i := 0) rfl) all0) fun v10 h10 z10 K10 q10 => ?_
  obtain ⟨rfl, S⟩ := q10
  show C.W h10 [a8, a2] 4 20 (mkF K.m 67 #[.val (.long u), .second, .val (.int p), .val (.int nu), .val (.int sa), .val (.int en), .val (.int c0), .val (.int c1), .val (.int c2), .val (.int c3), .val (.ref a2), .unset, .unset, .unset, .unset, .unset, .unset] [.ref a8])
  have lS := S.lt
  refine C.astore #[.val (.long u), .second, .val (.int p), .val (.int nu), .val (.int sa), .val (.int en), .val (.int c0), .val (.int c1), .val (.int c2), .val (.int c3), .val (.ref a2), .val (.ref a8), .unset, .unset, .unset, .unset, .unset] at_67 rfl rfl ?_
  refine C.iloadN at_69 rfl ?_
  refine C.ldcInt (v := (2147483647 : Int32)) (B.1 _ (List.mem_of_getElem? (i := 30) rfl)) at_70 ?_
  refine C.iand at_72 ?_
  refine C.iconst (v := (5 : Int32)) at_73 (by first | rfl | decide) ?_
  refine C.irem (by decide) at_74 ?_
  obtain ⟨i, e_i⟩ : ∃ z, ((p &&& (2147483647 : Int32)) % (5 : Int32)) = z := ⟨_, rfl⟩
  refine C.topI e_i ?_
  have hi : 0 ≤ i.toInt ∧ i.toInt < 5 := by
    have q := rem_pos (y := 5) 5 (and_pos p) (by decide) (by decide)
    rw [e_i] at q
    omega
  have e5 : ((5 : Int32) - i).toInt = 5 - i.toInt := by
    have k5 : (5 : Int32).toInt = 5 := by decide
    rw [sub_int (by omega) (by omega), k5]
  have n5 : (5 : Int32) - i ≠ 0 := fun e => by
    rw [e] at e5
    have k0 : (0 : Int32).toInt = 0 := rfl
    omega
  refine C.istore #[.val (.long u), .second, .val (.int p), .val (.int nu), .val (.int sa), .val (.int en), .val (.int c0), .val (.int c1), .val (.int c2), .val (.int c3), .val (.ref a2), .val (.ref a8), .val (.int i), .unset, .unset, .unset, .unset] at_75 rfl ?_
  refine C.iload at_77 rfl ?_
  refine C.iloadN at_79 rfl ?_
  refine C.bipush (v := (8 : Int32)) at_80 (by first | rfl | decide) ?_
  refine C.iushr at_82 ?_
  refine C.iconst (v := (5 : Int32)) at_83 (by first | rfl | decide) ?_
  refine C.iload at_84 rfl ?_
  refine C.isub at_86 ?_
  refine C.irem (by assumption) at_87 ?_
  refine C.iadd at_88 ?_
  obtain ⟨j, e_j⟩ : ∃ z, (i + ((p.toUInt32 >>> ((8 : Int32) &&& 31).toUInt32).toInt32 % ((5 : Int32) - i))) = z := ⟨_, rfl⟩
  refine C.topI e_j ?_
  have hj : i.toInt ≤ j.toInt ∧ j.toInt ≤ 4 := by
    have s8 := c_iushr p 8 8 (by decide) (by decide)
    have p0 : 0 ≤ ((p.toUInt32 >>> ((8 : Int32) &&& 31).toUInt32).toInt32).toInt := by rw [s8]; exact Int.ediv_nonneg (Int.emod_nonneg _ (by decide)) (by decide)
    have q := rem_pos (y := (5 : Int32) - i) (5 - i.toInt) p0 e5 (by omega)
    rw [← e_j, add_int (by omega) (by omega)]
    omega
  refine C.istore #[.val (.long u), .second, .val (.int p), .val (.int nu), .val (.int sa), .val (.int en), .val (.int c0), .val (.int c1), .val (.int c2), .val (.int c3), .val (.ref a2), .val (.ref a8), .val (.int i), .val (.int j), .unset, .unset, .unset] at_89 rfl ?_
  refine C.new (B.1 _ (List.mem_of_getElem? (i := 31) rfl)) (B.1 _ (List.mem_of_getElem? (i := 32) rfl)) (B.1 _ (List.mem_of_getElem? (i := 33) rfl)) at_91 (by decide) (by decide) fun h11 a12 g11 z11 o11 K11 En11 Dn11 => ?_
  show C.W h11 [a12, a8, a2] 5 24 (mkF K.m 94 #[.val (.long u), .second, .val (.int p), .val (.int nu), .val (.int sa), .val (.int en), .val (.int c0), .val (.int c1), .val (.int c2), .val (.int c3), .val (.ref a2), .val (.ref a8), .val (.int i), .val (.int j), .unset, .unset, .unset] [.ref a12])
  have G_number : Fld Z h11 a12 "com/example/tranche/tranche/document/SourceLine" "number" "I" (.int 0) := Dn11 (Or.inr (B.1 _ (List.mem_of_getElem? (i := 39) rfl))) (ty := .int) (by decide)
  have G_text : Fld Z h11 a12 "com/example/tranche/tranche/document/SourceLine" "text" "Ljava/lang/String;" (.null) := Dn11 (Or.inr (B.1 _ (List.mem_of_getElem? (i := 41) rfl))) (ty := (.object "java/lang/String")) (by decide)
  have G_start : Fld Z h11 a12 "com/example/tranche/tranche/document/SourceLine" "start" "I" (.int 0) := Dn11 (Or.inr (B.1 _ (List.mem_of_getElem? (i := 43) rfl))) (ty := .int) (by decide)
  have G_end : Fld Z h11 a12 "com/example/tranche/tranche/document/SourceLine" "end" "I" (.int 0) := Dn11 (Or.inr (B.1 _ (List.mem_of_getElem? (i := 45) rfl))) (ty := .int) (by decide)
  refine C.dup rfl at_94 ?_
  refine C.iloadN at_95 rfl ?_
  refine C.aload at_96 rfl rfl ?_
  refine C.iload at_98 rfl ?_
  refine C.iload at_100 rfl ?_
  refine C.callN a12 [.int nu, .ref a8, .int sa, .int en] [.ref a12] 1 (B.1 _ (List.mem_of_getElem? (i := 34) rfl)) (B.1 _ (List.mem_of_getElem? (i := 35) rfl)) (B.1 _ (List.mem_of_getElem? (i := 36) rfl)) rfl (by decide) pd__28_ILjava_2f_lang_2f_String_3b_II_29_V rfl id (c_slinit B En11 G_number G_text G_start G_end) at_102 rfl rfl rfl (by decide) (by decide) (by decide) (by decide) (allS (List.mem_of_getElem? (i := 0) rfl) all0) fun v13 h13 z13 K13 q13 => ?_
  obtain ⟨rfl, Et, G1⟩ := q13
  show C.W h13 [a12, a8, a2] 5 24 (mkF K.m 105 #[.val (.long u), .second, .val (.int p), .val (.int nu), .val (.int sa), .val (.int en), .val (.int c0), .val (.int c1), .val (.int c2), .val (.int c3), .val (.ref a2), .val (.ref a8), .val (.int i), .val (.int j), .unset, .unset, .unset] [.ref a12])
  refine C.astore #[.val (.long u), .second, .val (.int p), .val (.int nu), .val (.int sa), .val (.int en), .val (.int c0), .val (.int c1), .val (.int c2), .val (.int c3), .val (.ref a2), .val (.ref a8), .val (.int i), .val (.int j), .val (.ref a12), .unset, .unset] at_105 rfl rfl ?_
  refine C.aload at_107 rfl rfl ?_
  refine C.iload at_109 rfl ?_
  refine C.iload at_111 rfl ?_
  have S_14 := ((S.keep K11 all0).keep K13 (allS (by omega) all0))
  refine C.callV a12 [.int i, .int j] [] 0 (B.1 _ (List.mem_of_getElem? (i := 46) rfl)) (B.1 _ (List.mem_of_getElem? (i := 47) rfl)) (B.1 _ (List.mem_of_getElem? (i := 49) rfl)) (B.1 _ (List.mem_of_getElem? (i := 48) rfl)) (by decide) rfl Et pd__28_II_29_I rfl id (c_bb B G1 S_14 hi.1 hj.1 (by simp; omega)) at_113 rfl rfl rfl (by decide) (by decide) (by decide) (by decide) all0 fun v15 h15 z15 K15 q15 => ?_
  obtain ⟨rfl, rfl⟩ := q15
  show C.W h13 [a12, a8, a2] 5 24 (mkF K.m 116 #[.val (.long u), .second, .val (.int p), .val (.int nu), .val (.int sa), .val (.int en), .val (.int c0), .val (.int c1), .val (.int c2), .val (.int c3), .val (.ref a2), .val (.ref a8), .val (.int i), .val (.int j), .val (.ref a12), .unset, .unset] [.int (usum (([c0, c1, c2, c3].take j.toInt.toNat).drop i.toInt.toNat))])
  refine C.istore #[.val (.long u), .second, .val (.int p), .val (.int nu), .val (.int sa), .val (.int en), .val (.int c0), .val (.int c1), .val (.int c2), .val (.int c3), .val (.ref a2), .val (.ref a8), .val (.int i), .val (.int j), .val (.ref a12), .val (.int (usum (([c0, c1, c2, c3].take j.toInt.toNat).drop i.toInt.toNat))), .unset] at_116 rfl ?_
  refine C.iconst (v := (0 : Int32)) at_118 (by first | rfl | decide) ?_
  refine C.iload at_119 rfl ?_
  refine C.iload at_121 rfl ?_
  refine C.iload at_123 rfl ?_
  refine C.callS [.int (0 : Int32), .int i, .int j, .int c0] [] 0 (B.1 _ (List.mem_of_getElem? (i := 51) rfl)) (B.1 _ (List.mem_of_getElem? (i := 52) rfl)) (B.1 _ (List.mem_of_getElem? (i := 53) rfl)) (B.1 _ (List.mem_of_getElem? (i := 54) rfl)) (by decide) pd__28_IIIC_29_I rfl id (c_part B (q := 0) (i := i) (j := j) (c := c0)) at_125 rfl rfl rfl (by decide) (by decide) (by decide) (by decide) all0 fun v16 h16 z16 K16 q16 => ?_
  obtain ⟨rfl, rfl⟩ := q16
  show C.W h13 [a12, a8, a2] 5 24 (mkF K.m 128 #[.val (.long u), .second, .val (.int p), .val (.int nu), .val (.int sa), .val (.int en), .val (.int c0), .val (.int c1), .val (.int c2), .val (.int c3), .val (.ref a2), .val (.ref a8), .val (.int i), .val (.int j), .val (.ref a12), .val (.int (usum (([c0, c1, c2, c3].take j.toInt.toNat).drop i.toInt.toNat))), .unset] [.int (if i.toInt ≤ (0 : Int32).toInt ∧ (0 : Int32).toInt < j.toInt then UL c0 else 0)])
  refine C.iconst (v := (1 : Int32)) at_128 (by first | rfl | decide) ?_
  refine C.iload at_129 rfl ?_
  refine C.iload at_131 rfl ?_
  refine C.iload at_133 rfl ?_
  refine C.callS [.int (1 : Int32), .int i, .int j, .int c1] [.int (if i.toInt ≤ (0 : Int32).toInt ∧ (0 : Int32).toInt < j.toInt then UL c0 else 0)] 1 (B.1 _ (List.mem_of_getElem? (i := 51) rfl)) (B.1 _ (List.mem_of_getElem? (i := 52) rfl)) (B.1 _ (List.mem_of_getElem? (i := 53) rfl)) (B.1 _ (List.mem_of_getElem? (i := 54) rfl)) (by decide) pd__28_IIIC_29_I rfl id (c_part B (q := 1) (i := i) (j := j) (c := c1)) at_135 rfl rfl rfl (by decide) (by decide) (by decide) (by decide) all0 fun v17 h17 z17 K17 q17 => ?_
  obtain ⟨rfl, rfl⟩ := q17
  show C.W h13 [a12, a8, a2] 5 24 (mkF K.m 138 #[.val (.long u), .second, .val (.int p), .val (.int nu), .val (.int sa), .val (.int en), .val (.int c0), .val (.int c1), .val (.int c2), .val (.int c3), .val (.ref a2), .val (.ref a8), .val (.int i), .val (.int j), .val (.ref a12), .val (.int (usum (([c0, c1, c2, c3].take j.toInt.toNat).drop i.toInt.toNat))), .unset] [.int (if i.toInt ≤ (1 : Int32).toInt ∧ (1 : Int32).toInt < j.toInt then UL c1 else 0), .int (if i.toInt ≤ (0 : Int32).toInt ∧ (0 : Int32).toInt < j.toInt then UL c0 else 0)])
  refine C.iadd at_138 ?_
  refine C.iconst (v := (2 : Int32)) at_139 (by first | rfl | decide) ?_
  refine C.iload at_140 rfl ?_
  refine C.iload at_142 rfl ?_
  refine C.iload at_144 rfl ?_
  refine C.callS [.int (2 : Int32), .int i, .int j, .int c2] [.int ((if i.toInt ≤ (0 : Int32).toInt ∧ (0 : Int32).toInt < j.toInt then UL c0 else 0) + (if i.toInt ≤ (1 : Int32).toInt ∧ (1 : Int32).toInt < j.toInt then UL c1 else 0))] 1 (B.1 _ (List.mem_of_getElem? (i := 51) rfl)) (B.1 _ (List.mem_of_getElem? (i := 52) rfl)) (B.1 _ (List.mem_of_getElem? (i := 53) rfl)) (B.1 _ (List.mem_of_getElem? (i := 54) rfl)) (by decide) pd__28_IIIC_29_I rfl id (c_part B (q := 2) (i := i) (j := j) (c := c2)) at_146 rfl rfl rfl (by decide) (by decide) (by decide) (by decide) all0 fun v18 h18 z18 K18 q18 => ?_
  obtain ⟨rfl, rfl⟩ := q18
  show C.W h13 [a12, a8, a2] 5 24 (mkF K.m 149 #[.val (.long u), .second, .val (.int p), .val (.int nu), .val (.int sa), .val (.int en), .val (.int c0), .val (.int c1), .val (.int c2), .val (.int c3), .val (.ref a2), .val (.ref a8), .val (.int i), .val (.int j), .val (.ref a12), .val (.int (usum (([c0, c1, c2, c3].take j.toInt.toNat).drop i.toInt.toNat))), .unset] [.int (if i.toInt ≤ (2 : Int32).toInt ∧ (2 : Int32).toInt < j.toInt then UL c2 else 0), .int ((if i.toInt ≤ (0 : Int32).toInt ∧ (0 : Int32).toInt < j.toInt then UL c0 else 0) + (if i.toInt ≤ (1 : Int32).toInt ∧ (1 : Int32).toInt < j.toInt then UL c1 else 0))])
  refine C.iadd at_149 ?_
  refine C.iconst (v := (3 : Int32)) at_150 (by first | rfl | decide) ?_
  refine C.iload at_151 rfl ?_
  refine C.iload at_153 rfl ?_
  refine C.iload at_155 rfl ?_
  refine C.callS [.int (3 : Int32), .int i, .int j, .int c3] [.int (((if i.toInt ≤ (0 : Int32).toInt ∧ (0 : Int32).toInt < j.toInt then UL c0 else 0) + (if i.toInt ≤ (1 : Int32).toInt ∧ (1 : Int32).toInt < j.toInt then UL c1 else 0)) + (if i.toInt ≤ (2 : Int32).toInt ∧ (2 : Int32).toInt < j.toInt then UL c2 else 0))] 1 (B.1 _ (List.mem_of_getElem? (i := 51) rfl)) (B.1 _ (List.mem_of_getElem? (i := 52) rfl)) (B.1 _ (List.mem_of_getElem? (i := 53) rfl)) (B.1 _ (List.mem_of_getElem? (i := 54) rfl)) (by decide) pd__28_IIIC_29_I rfl id (c_part B (q := 3) (i := i) (j := j) (c := c3)) at_157 rfl rfl rfl (by decide) (by decide) (by decide) (by decide) all0 fun v19 h19 z19 K19 q19 => ?_
  obtain ⟨rfl, rfl⟩ := q19
  show C.W h13 [a12, a8, a2] 5 24 (mkF K.m 160 #[.val (.long u), .second, .val (.int p), .val (.int nu), .val (.int sa), .val (.int en), .val (.int c0), .val (.int c1), .val (.int c2), .val (.int c3), .val (.ref a2), .val (.ref a8), .val (.int i), .val (.int j), .val (.ref a12), .val (.int (usum (([c0, c1, c2, c3].take j.toInt.toNat).drop i.toInt.toNat))), .unset] [.int (if i.toInt ≤ (3 : Int32).toInt ∧ (3 : Int32).toInt < j.toInt then UL c3 else 0), .int (((if i.toInt ≤ (0 : Int32).toInt ∧ (0 : Int32).toInt < j.toInt then UL c0 else 0) + (if i.toInt ≤ (1 : Int32).toInt ∧ (1 : Int32).toInt < j.toInt then UL c1 else 0)) + (if i.toInt ≤ (2 : Int32).toInt ∧ (2 : Int32).toInt < j.toInt then UL c2 else 0))])
  refine C.iadd at_160 ?_
  refine C.istore #[.val (.long u), .second, .val (.int p), .val (.int nu), .val (.int sa), .val (.int en), .val (.int c0), .val (.int c1), .val (.int c2), .val (.int c3), .val (.ref a2), .val (.ref a8), .val (.int i), .val (.int j), .val (.ref a12), .val (.int (usum (([c0, c1, c2, c3].take j.toInt.toNat).drop i.toInt.toNat))), .val (.int ((((if i.toInt ≤ (0 : Int32).toInt ∧ (0 : Int32).toInt < j.toInt then UL c0 else 0) + (if i.toInt ≤ (1 : Int32).toInt ∧ (1 : Int32).toInt < j.toInt then UL c1 else 0)) + (if i.toInt ≤ (2 : Int32).toInt ∧ (2 : Int32).toInt < j.toInt then UL c2 else 0)) + (if i.toInt ≤ (3 : Int32).toInt ∧ (3 : Int32).toInt < j.toInt then UL c3 else 0)))] at_161 rfl ?_
  refine C.iload at_163 rfl ?_
  refine C.iload at_165 rfl ?_
  refine C.icmp_ne 174 at_167 (by decide) (by decide) (fun q20 => ?_) (fun q20 => ?_)
  · exfalso; exact q20 (by rw [usum4 hi.1 hj.1 hj.2])
  · refine C.iconst (v := (1 : Int32)) at_170 (by first | rfl | decide) ?_
    refine C.goto 175 at_171 (by decide) (by decide) ?_
    exact C.ireturn (t := .boolean) rfl (by simp) rfl at_175 (by decide) (by decide) rfl
set_option maxRecDepth 65536 in
set_option maxHeartbeats 40000000 in
theorem comes_1 {Post : Tables → Env → Array Value → State → Outcome → State → Prop} (hpost : ∀ tb e args s v u, (limb_1_1.after args s (.returned v) u = true ∧ limb_1_2.after args s (.returned v) u = true ∧ True) → Framed s (.returned v) u (Jvm.fieldLocs frame_1_writes args s ++ Jvm.arrayLocs frame_1_arrays args s ++ Jvm.staticLocs frame_1_statics s) 24 128 → Post tb e args s (.returned v) u) :
    ArmFor flags0 classFile x code maxLocals ret World_1 tables_1 room_1 Calls_1 rest_1 Pre_1 Post := by
  intro l hfl _ _ p e ha hc hk s m args below hf hA hF happ hP
  obtain ⟨hcalls, hrest, hpre⟩ := hP
  obtain ⟨-, -, -, hnamed, -, -, -, hat⟩ := (Spec.applies_iff hf).mp happ
  obtain ⟨hg, hn⟩ := and_e (Cond.before_iff.mp (show (Jvm.Cond.and given_1 narrow_1).before args s = true from hpre))
  obtain ⟨hct, r0⟩ := and_e hg
  obtain ⟨w0, w1, w2, w3, w4, rfl⟩ : ∃ w0 w1 w2 w3 w4 : Value, args = #[w0, w1, w2, w3, w4] := by
    have hs : args.size = 5 := by simpa [Cond.value, given_1] using hct
    obtain ⟨L⟩ := args
    match L, hs with
    | [w0, w1, w2, w3, w4], _ => exact ⟨w0, w1, w2, w3, w4, rfl⟩
  have hw := fun d (hd : d ∈ tables_1) => atoms_spec (ws := Jvm.Cond.code x code maxLocals ret :: tables_1) hat d (List.mem_cons_of_mem _ hd)
  obtain ⟨hsets, hown0⟩ := atoms_of _ (rest_1_c_eq ▸ (show rest_1_c.before _ s = true from hrest))
  have n3 := not_v (Cond.before_iff.mp (hsets _ (List.mem_of_getElem? (i := 2) rfl)))
  obtain ⟨zc, ezc⟩ := is_v (Cond.before_iff.mp (hsets _ (List.mem_of_getElem? (i := 1) rfl)))
  have Szc : Sta s s.heap "java/lang/String" "COMPACT_STRINGS" "Z" (.int zc) := Sta.start ezc (Or.inl (hsets _ (List.mem_of_getElem? (i := 0) rfl)))
  have czc : ¬ (zc = (0 : Int32)) := gotF (Cond.eq_ints ezc (Term.int_eval (0))) n3
  obtain ⟨fm, efm, rfm⟩ := isR_v (Cond.before_iff.mp (hsets _ (List.mem_of_getElem? (i := 8) rfl)))
  have Sfm : Sta s s.heap "jdk/internal/util/Preconditions" "SIOOBE_FORMATTER" "Ljava/util/function/BiFunction;" fm := Sta.start efm (Or.inl (hsets _ (List.mem_of_getElem? (i := 7) rfl)))
  obtain ⟨g0, r1⟩ := and_e r0
  obtain ⟨i0, e0⟩ := isL_v g0
  obtain rfl : w0 = (.long i0) := Option.some.inj e0
  obtain ⟨g1, r2⟩ := and_e r1
  obtain ⟨i1, e1⟩ := is_v g1
  obtain rfl : w1 = (.int i1) := Option.some.inj e1
  obtain ⟨g2, r3⟩ := and_e r2
  obtain ⟨i2, e2⟩ := is_v g2
  obtain rfl : w2 = (.int i2) := Option.some.inj e2
  obtain ⟨g3, r4⟩ := and_e r3
  obtain ⟨i3, e3⟩ := is_v g3
  obtain rfl : w3 = (.int i3) := Option.some.inj e3
  obtain ⟨i4, e4⟩ := is_v r4
  obtain rfl : w4 = (.int i4) := Option.some.inj e4
  have Sad : Sta s s.heap "java/lang/StringUTF16" "$assertionsDisabled" "Z" (.int 1) := Sta.start (eqv_i (Term.int_eval (1)) (Cond.before_iff.mp (hsets _ (List.mem_of_getElem? (i := 12) rfl)))) (Or.inl (hsets _ (List.mem_of_getElem? (i := 11) rfl)))
  have Shi : Sta s s.heap "java/lang/StringUTF16" "HI_BYTE_SHIFT" "I" (.int 0) := Sta.start (eqv_i (Term.int_eval (0)) (Cond.before_iff.mp (hsets _ (List.mem_of_getElem? (i := 15) rfl)))) (Or.inl (hsets _ (List.mem_of_getElem? (i := 14) rfl)))
  have Slo : Sta s s.heap "java/lang/StringUTF16" "LO_BYTE_SHIFT" "I" (.int 8) := Sta.start (eqv_i (Term.int_eval (8)) (Cond.before_iff.mp (hsets _ (List.mem_of_getElem? (i := 18) rfl)))) (Or.inl (hsets _ (List.mem_of_getElem? (i := 17) rfl)))
  have B : Base s _ := ⟨hw, ⟨zc, Szc, czc⟩, ⟨fm, Sfm, rfm⟩, Sad, Shi, Slo⟩
  have hCH : CHv s EL s.vm s.heap := fun p hp => nomatch hp
  obtain ⟨n, o, h1, h2, h3, v, L, rfl, ⟨hq, -, N⟩, hC, hR⟩ := m_law (l := l) (n0 := s.heap.size) (h := s.heap) (u := i0) (p := i1) (nu := i2) (sa := i3) (en := i4) B p e ha hc hk s m _ below hf ((Spec.applies_iff_loose hf).mp happ).1 ⟨rfl, State.Warmed39.refl s, rfl, hCH, Old.start s, fun _ q => nomatch q⟩ trivial
  obtain rfl := hq
  exact ⟨n, _, h1, h2, h3, hpost _ _ _ _ _ _ ⟨Cond.after_iff.mpr rfl, Cond.after_iff.mpr (eq_i res_at (Term.int_eval (1)) rfl), trivial⟩ ⟨hR.1, (hC.2.2.2.resolve_left id) s rfl, (hR.2.2.2.sift fun y hy => Or.inr (N y hy)).mono (by decide) (by decide)⟩⟩
theorem main_1_1 : Claimed_1_1 := comes_1 fun _ _ _ _ _ _ h hF => ⟨h.1, hF⟩
theorem main_1_2 : Claimed_1_2 := comes_1 fun _ _ _ _ _ _ h hF => ⟨h.2.1, hF⟩
end Jvm.Pilot.@@N@@
namespace Jvm.Pilot.@@N@@
open Jvm Jvm.ClassFile Sem Op Lib Jvm.Free Jvm.Stand Jvm.Pilot.@@N@@.Jvm.D
/-! MADE BY PROGRAM (witnessworld.py) out of the Statement's table words and the real class files: 21 classes; the members and pool entries that the words name. The judged class is class 1, her method 3. -/
namespace start1
open Jvm.ClassFile
def u (s : String) : CpInfo := .utf8 (stringToUtf16 s)
/-- a pool by its gaps: so many unusable entries, then the entry; so many at the end -/
def gap : Nat → List CpInfo → List CpInfo
  | 0, r => r
  | n + 1, r => .unusable :: gap n r
def poolList (es : List (Nat × CpInfo)) (last : Nat) : List CpInfo := es.foldr (fun e r => gap e.1 (e.2 :: r)) (gap last [])
def pool (es : List (Nat × CpInfo)) (last : Nat) : Array CpInfo := ⟨poolList es last⟩
def fileOf (pool : Array CpInfo) (this : Nat) (attrs : Array Attribute := #[]) (ms : Array MethodInfo := #[]) (fl : Nat := 33) (sup : Nat := 0) (ifs : Array Nat := #[]) (fds : Array FieldInfo := #[]) : ClassFile where
  minorVersion := 0
  majorVersion := 65
  constantPool := pool
  accessFlags := fl
  thisClass := this
  superClass := sup
  interfaces := ifs
  fields := fds
  methods := ms
  attributes := attrs
def plain (name : String) (sup : Option ClassId) : Class where
  name := name
  kind := .ordinary
  loader := none
  accessFlags := 33
  super := sup
  interfaces := #[]
  cf := none
  fields := #[]
  methods := #[]
  instanceTypes := #[]
  staticTypes := #[]
  resolved := #[]
  callSites := []
  init := .initialized
  statics := none
  mirror := none

def pool0 : Array CpInfo := pool [(5, u "<init>"), (0, u "()V"), (1, .class_ 10), (1, u "java/lang/Object")] 113

def k0c0 : Code := { maxStack := 0, maxLocals := 1, code := object_method_1_code, exceptionTable := #[], attributes := #[] }
def k0m0 : Method := { name := "<init>", desc := "()V", sig := { parameters := [], returnType := none }, accessFlags := 1, code := some k0c0 }
/-- java/lang/Object -/
def k0 : Class := { plain "java/lang/Object" none with
  accessFlags := 33
  interfaces := #[]
  cf := some (fileOf pool0 8 #[] #[{ accessFlags := 1, nameIndex := 5, descriptorIndex := 6, attributes := #[] }] 33 0 #[] #[])
  fields := #[]
  methods := #[k0m0]
  instanceTypes := #[]
  staticTypes := #[]
  resolved := Array.replicate 124 none
  statics := none }

def pool1 : Array CpInfo := pool [(2, .class_ 4), (1, u "java/lang/Object"), (0, u "<init>"), (0, u "()V"), (0, .integer 55296), (0, .integer 57343), (0, .methodref 10 11), (0, .class_ 12), (0, .nameAndType 13 14), (0, u "com/example/tranche/tranche/document/SourceLineBytesBetweenPinLaw"), (0, u "len"), (0, u "(C)I"), (0, .class_ 16), (0, u "java/lang/String"), (0, .methodref 15 18), (0, .nameAndType 5 19), (0, u "([C)V"), (0, .integer 2147483647), (0, .class_ 22), (0, u "com/example/tranche/tranche/document/SourceLine"), (0, .methodref 21 24), (0, .nameAndType 5 25), (0, u "(ILjava/lang/String;II)V"), (0, .methodref 21 27), (0, .nameAndType 28 29), (0, u "bytesBetween"), (0, u "(II)I"), (0, .methodref 10 31), (0, .nameAndType 32 33), (0, u "part"), (0, u "(IIIC)I"), (3, u "law"), (0, u "(JIIII)Z")] 4

def k1m0 : Method := { name := "<init>", desc := "()V", sig := { parameters := [], returnType := none }, accessFlags := 1, code := none }
def k1c1 : Code := { maxStack := 2, maxLocals := 1, code := method_2_code, exceptionTable := #[], attributes := #[] }
def k1m1 : Method := { name := "len", desc := "(C)I", sig := { parameters := [.char], returnType := some .int }, accessFlags := 10, code := some k1c1 }
def k1c2 : Code := { maxStack := 2, maxLocals := 4, code := method_3_code, exceptionTable := #[], attributes := #[] }
def k1m2 : Method := { name := "part", desc := "(IIIC)I", sig := { parameters := [.int, .int, .int, .char], returnType := some .int }, accessFlags := 10, code := some k1c2 }
def k1c3 : Code := { maxStack := 6, maxLocals := 17, code := code, exceptionTable := #[], attributes := #[] }
def k1m3 : Method := { name := "law", desc := "(JIIII)Z", sig := { parameters := [.long, .int, .int, .int, .int], returnType := some .boolean }, accessFlags := 9, code := some k1c3 }
/-- com/example/tranche/tranche/document/SourceLineBytesBetweenPinLaw -/
def k1 : Class := { plain "com/example/tranche/tranche/document/SourceLineBytesBetweenPinLaw" (some 0) with
  accessFlags := 49
  interfaces := #[]
  cf := some (fileOf pool1 10 #[] #[{ accessFlags := 1, nameIndex := 5, descriptorIndex := 6, attributes := #[] }, { accessFlags := 10, nameIndex := 13, descriptorIndex := 14, attributes := #[] }, { accessFlags := 10, nameIndex := 32, descriptorIndex := 33, attributes := #[] }, { accessFlags := 9, nameIndex := 37, descriptorIndex := 38, attributes := #[] }] 49 2 #[] #[])
  fields := #[]
  methods := #[k1m0, k1m1, k1m2, k1m3]
  instanceTypes := #[]
  staticTypes := #[]
  resolved := Array.replicate 43 none
  statics := none }

def pool2 : Array CpInfo := pool [(1, .class_ 2), (0, u "java/io/Serializable"), (0, .class_ 4), (0, u "java/lang/Object")] 2

/-- java/io/Serializable -/
def k2 : Class := { plain "java/io/Serializable" (some 0) with
  accessFlags := 1537
  interfaces := #[]
  cf := some (fileOf pool2 1 #[] #[] 1537 3 #[] #[])
  fields := #[]
  methods := #[]
  instanceTypes := #[]
  staticTypes := #[]
  resolved := Array.replicate 7 none
  statics := none }

def pool3 : Array CpInfo := pool [(1, .class_ 2), (0, u "java/lang/Comparable"), (0, .class_ 4), (0, u "java/lang/Object")] 7

/-- java/lang/Comparable -/
def k3 : Class := { plain "java/lang/Comparable" (some 0) with
  accessFlags := 1537
  interfaces := #[]
  cf := some (fileOf pool3 1 #[] #[] 1537 3 #[] #[])
  fields := #[]
  methods := #[]
  instanceTypes := #[]
  staticTypes := #[]
  resolved := Array.replicate 12 none
  statics := none }

def pool4 : Array CpInfo := pool [(2, .class_ 4), (1, u "java/lang/CharSequence"), (42, .class_ 48), (0, u "java/lang/CharSequence$1CodePointIterator"), (10, .class_ 60), (0, u "java/lang/CharSequence$1CharIterator"), (5, .class_ 67), (0, u "java/lang/Object")] 63

/-- java/lang/CharSequence -/
def k4 : Class := { plain "java/lang/CharSequence" (some 0) with
  accessFlags := 1537
  interfaces := #[]
  cf := some (fileOf pool4 2 #[.nestMembers #[47, 59]] #[] 1537 66 #[] #[])
  fields := #[]
  methods := #[]
  instanceTypes := #[]
  staticTypes := #[]
  resolved := Array.replicate 131 none
  statics := none }

def pool5 : Array CpInfo := pool [(1, .class_ 2), (0, u "java/lang/constant/Constable"), (0, .class_ 4), (0, u "java/lang/Object")] 6

/-- java/lang/constant/Constable -/
def k5 : Class := { plain "java/lang/constant/Constable" (some 0) with
  accessFlags := 1537
  interfaces := #[]
  cf := some (fileOf pool5 1 #[] #[] 1537 3 #[] #[])
  fields := #[]
  methods := #[]
  instanceTypes := #[]
  staticTypes := #[]
  resolved := Array.replicate 11 none
  statics := none }

def pool6 : Array CpInfo := pool [(1, .class_ 2), (0, u "java/lang/constant/ConstantDesc"), (0, .class_ 4), (0, u "java/lang/Object")] 32

/-- java/lang/constant/ConstantDesc -/
def k6 : Class := { plain "java/lang/constant/ConstantDesc" (some 0) with
  accessFlags := 1537
  interfaces := #[]
  cf := some (fileOf pool6 1 #[] #[] 1537 3 #[] #[])
  fields := #[]
  methods := #[]
  instanceTypes := #[]
  staticTypes := #[]
  resolved := Array.replicate 37 none
  statics := none }

def pool7 : Array CpInfo := pool [(1, .methodref 2 3), (0, .class_ 4), (0, .nameAndType 5 6), (0, u "java/lang/Object"), (0, u "<init>"), (0, u "()V"), (2, .fieldref 10 11), (0, .class_ 12), (0, .nameAndType 13 14), (0, u "java/lang/String"), (0, u "value"), (0, u "[B"), (0, .fieldref 10 16), (0, .nameAndType 17 18), (0, u "coder"), (0, u "B"), (2, u "hash"), (0, u "I"), (2, u "hashIsZero"), (0, u "Z"), (0, .methodref 10 28), (0, .nameAndType 5 29), (0, u "([CIILjava/lang/Void;)V"), (8, .fieldref 10 39), (0, .nameAndType 40 26), (0, u "COMPACT_STRINGS"), (1, .class_ 44), (1, u "java/lang/StringUTF16"), (0, u "compress"), (1, .methodref 42 48), (0, .nameAndType 49 50), (0, u "coderFromArrayLen"), (0, u "([BI)B"), (56, .class_ 109), (1, u "java/lang/StringLatin1"), (32, u "()Z"), (34, .methodref 42 178), (0, .nameAndType 45 179), (0, u "([CII)[B"), (183, u "([BI)C"), (27, u "(II)V"), (35, u "(I)C"), (64, .methodref 10 493), (0, .nameAndType 494 142), (0, u "isLatin1"), (0, .methodref 107 496), (0, .nameAndType 497 363), (0, u "charAt"), (0, .methodref 42 496), (2, u "checkIndex"), (73, .class_ 576), (0, u "java/lang/CharSequence"), (22, u "CASE_INSENSITIVE_ORDER"), (0, u "Ljava/util/Comparator;"), (409, u "([C)V"), (42, .fieldref 1054 1055), (0, .class_ 1056), (0, .nameAndType 1057 1058), (0, u "jdk/internal/util/Preconditions"), (0, u "SIOOBE_FORMATTER"), (0, u "Ljava/util/function/BiFunction;"), (0, .methodref 1054 1060), (0, .nameAndType 501 1061), (0, u "(IILjava/util/function/BiFunction;)I"), (39, u "serialPersistentFields"), (0, u "[Ljava/io/ObjectStreamField;"), (0, .class_ 1104), (0, u "java/lang/String$CaseInsensitiveComparator"), (1, .class_ 1107), (0, u "java/io/Serializable"), (0, .class_ 1109), (0, u "java/lang/Comparable"), (0, .class_ 1111), (0, u "java/lang/constant/Constable"), (0, .class_ 1113), (0, u "java/lang/constant/ConstantDesc"), (2, u "serialVersionUID"), (0, u "J"), (3, u "REPL"), (0, u "C"), (2, u "LATIN1"), (1, u "UTF16")] 323

def k7m0 : Method := { name := "<init>", desc := "()V", sig := { parameters := [], returnType := none }, accessFlags := 1, code := none }
def k7c1 : Code := { maxStack := 5, maxLocals := 2, code := jdk_42_method_3_code, exceptionTable := #[], attributes := #[] }
def k7m1 : Method := { name := "<init>", desc := "([C)V", sig := { parameters := [(.array .char)], returnType := none }, accessFlags := 1, code := some k7c1 }
def k7c2 : Code := { maxStack := 2, maxLocals := 2, code := jdk_42_method_56_code, exceptionTable := #[], attributes := #[] }
def k7m2 : Method := { name := "charAt", desc := "(I)C", sig := { parameters := [.int], returnType := some .char }, accessFlags := 1, code := some k7c2 }
def k7c3 : Code := { maxStack := 4, maxLocals := 6, code := jdk_42_method_149_code, exceptionTable := #[], attributes := #[] }
def k7m3 : Method := { name := "<init>", desc := "([CIILjava/lang/Void;)V", sig := { parameters := [(.array .char), .int, .int, (.object "java/lang/Void")], returnType := none }, accessFlags := 2, code := some k7c3 }
def k7c4 : Code := { maxStack := 1, maxLocals := 1, code := jdk_42_method_154_code, exceptionTable := #[], attributes := #[] }
def k7m4 : Method := { name := "isLatin1", desc := "()Z", sig := { parameters := [], returnType := some .boolean }, accessFlags := 0, code := some k7c4 }
def k7c5 : Code := { maxStack := 3, maxLocals := 2, code := jdk_42_method_155_code, exceptionTable := #[], attributes := #[] }
def k7m5 : Method := { name := "checkIndex", desc := "(II)V", sig := { parameters := [.int, .int], returnType := none }, accessFlags := 8, code := some k7c5 }
/-- java/lang/String -/
def k7 : Class := { plain "java/lang/String" (some 0) with
  accessFlags := 49
  interfaces := #[2, 3, 4, 5, 6]
  cf := some (fileOf pool7 10 #[.nestMembers #[1103]] #[{ accessFlags := 1, nameIndex := 5, descriptorIndex := 6, attributes := #[] }, { accessFlags := 1, nameIndex := 5, descriptorIndex := 1010, attributes := #[] }, { accessFlags := 1, nameIndex := 497, descriptorIndex := 427, attributes := #[] }, { accessFlags := 2, nameIndex := 5, descriptorIndex := 29, attributes := #[] }, { accessFlags := 0, nameIndex := 494, descriptorIndex := 142, attributes := #[] }, { accessFlags := 8, nameIndex := 501, descriptorIndex := 391, attributes := #[] }] 49 2 #[1106, 1108, 575, 1110, 1112] #[{ accessFlags := 18, nameIndex := 13, descriptorIndex := 14, attributes := #[] }, { accessFlags := 18, nameIndex := 17, descriptorIndex := 18, attributes := #[] }, { accessFlags := 2, nameIndex := 21, descriptorIndex := 22, attributes := #[] }, { accessFlags := 2, nameIndex := 25, descriptorIndex := 26, attributes := #[] }, { accessFlags := 26, nameIndex := 1116, descriptorIndex := 1117, attributes := #[] }, { accessFlags := 24, nameIndex := 40, descriptorIndex := 26, attributes := #[] }, { accessFlags := 26, nameIndex := 1101, descriptorIndex := 1102, attributes := #[] }, { accessFlags := 26, nameIndex := 1121, descriptorIndex := 1122, attributes := #[] }, { accessFlags := 25, nameIndex := 599, descriptorIndex := 600, attributes := #[] }, { accessFlags := 24, nameIndex := 1125, descriptorIndex := 18, attributes := #[] }, { accessFlags := 24, nameIndex := 1127, descriptorIndex := 18, attributes := #[] }])
  fields := #[{ name := "value", type := (.array .byte), accessFlags := 18, slot := 0, constantValue := 0 }, { name := "coder", type := .byte, accessFlags := 18, slot := 1, constantValue := 0 }, { name := "hash", type := .int, accessFlags := 2, slot := 2, constantValue := 0 }, { name := "hashIsZero", type := .boolean, accessFlags := 2, slot := 3, constantValue := 0 }, { name := "serialVersionUID", type := .long, accessFlags := 26, slot := 0, constantValue := 0 }, { name := "COMPACT_STRINGS", type := .boolean, accessFlags := 24, slot := 1, constantValue := 0 }, { name := "serialPersistentFields", type := (.array (.object "java/io/ObjectStreamField")), accessFlags := 26, slot := 2, constantValue := 0 }, { name := "REPL", type := .char, accessFlags := 26, slot := 3, constantValue := 0 }, { name := "CASE_INSENSITIVE_ORDER", type := (.object "java/util/Comparator"), accessFlags := 25, slot := 4, constantValue := 0 }, { name := "LATIN1", type := .byte, accessFlags := 24, slot := 5, constantValue := 0 }, { name := "UTF16", type := .byte, accessFlags := 24, slot := 6, constantValue := 0 }]
  methods := #[k7m0, k7m1, k7m2, k7m3, k7m4, k7m5]
  instanceTypes := #[(.array .byte), .byte, .int, .boolean]
  staticTypes := #[.long, .boolean, (.array (.object "java/io/ObjectStreamField")), .char, (.object "java/util/Comparator"), .byte, .byte]
  resolved := Array.replicate 1451 none
  statics := some 0 }

def pool8 : Array CpInfo := pool [(3, .class_ 4), (0, u "java/lang/String"), (1, .class_ 8), (1, u "java/lang/Object"), (0, u "<init>"), (0, u "()V"), (0, .methodref 12 13), (0, .class_ 14), (0, .nameAndType 15 16), (0, u "java/lang/StringUTF16"), (0, u "newBytesLength"), (0, u "(I)I"), (3, .integer 1073741823), (23, .fieldref 12 45), (0, .nameAndType 46 47), (0, u "$assertionsDisabled"), (0, u "Z"), (0, .methodref 12 49), (0, .nameAndType 50 51), (0, u "length"), (0, u "([B)I"), (7, .fieldref 12 60), (0, .nameAndType 61 62), (0, u "HI_BYTE_SHIFT"), (0, u "I"), (0, .fieldref 12 64), (0, .nameAndType 65 62), (0, u "LO_BYTE_SHIFT"), (1, .methodref 12 68), (0, .nameAndType 69 70), (0, u "checkIndex"), (0, u "(I[B)V"), (0, .methodref 12 72), (0, .nameAndType 73 74), (0, u "getChar"), (0, u "([BI)C"), (32, .methodref 12 108), (0, .nameAndType 109 110), (0, u "newBytesFor"), (0, u "(I)[B"), (0, .methodref 12 112), (0, .nameAndType 113 114), (0, u "putChar"), (0, u "([BII)V"), (0, .methodref 12 116), (0, .nameAndType 117 118), (0, u "compress"), (0, u "([CI[BII)I"), (0, .methodref 12 120), (0, .nameAndType 121 122), (0, u "toBytes"), (0, u "([CII)[B"), (138, u "coderFromArrayLen"), (0, u "([BI)B"), (106, .class_ 371), (1, u "java/lang/StringUTF16$LinesSpliterator"), (20, u "charAt"), (21, .methodref 3 415), (0, .nameAndType 69 416), (0, u "(II)V"), (13, u "MAX_LENGTH"), (196, .class_ 628), (0, u "java/lang/StringUTF16$CodePointsSpliterator"), (0, .class_ 630), (0, u "java/lang/StringUTF16$CharsSpliterator")] 4

def k8m0 : Method := { name := "<init>", desc := "()V", sig := { parameters := [], returnType := none }, accessFlags := 0, code := none }
def k8c1 : Code := { maxStack := 1, maxLocals := 1, code := jdk_52_method_2_code, exceptionTable := #[], attributes := #[] }
def k8m1 : Method := { name := "newBytesFor", desc := "(I)[B", sig := { parameters := [.int], returnType := some (.array .byte) }, accessFlags := 9, code := some k8c1 }
def k8c2 : Code := { maxStack := 4, maxLocals := 1, code := jdk_52_method_3_code, exceptionTable := #[], attributes := #[] }
def k8m2 : Method := { name := "newBytesLength", desc := "(I)I", sig := { parameters := [.int], returnType := some .int }, accessFlags := 9, code := some k8c2 }
def k8c3 : Code := { maxStack := 4, maxLocals := 3, code := jdk_52_method_4_code, exceptionTable := #[], attributes := #[] }
def k8m3 : Method := { name := "putChar", desc := "([BII)V", sig := { parameters := [(.array .byte), .int, .int], returnType := none }, accessFlags := 8, code := some k8c3 }
def k8c4 : Code := { maxStack := 3, maxLocals := 2, code := jdk_52_method_5_code, exceptionTable := #[], attributes := #[] }
def k8m4 : Method := { name := "getChar", desc := "([BI)C", sig := { parameters := [(.array .byte), .int], returnType := some .char }, accessFlags := 8, code := some k8c4 }
def k8c5 : Code := { maxStack := 2, maxLocals := 1, code := jdk_52_method_6_code, exceptionTable := #[], attributes := #[] }
def k8m5 : Method := { name := "length", desc := "([B)I", sig := { parameters := [(.array .byte)], returnType := some .int }, accessFlags := 9, code := some k8c5 }
def k8c6 : Code := { maxStack := 4, maxLocals := 5, code := jdk_52_method_14_code, exceptionTable := #[], attributes := #[] }
def k8m6 : Method := { name := "toBytes", desc := "([CII)[B", sig := { parameters := [(.array .char), .int, .int], returnType := some (.array .byte) }, accessFlags := 9, code := some k8c6 }
def k8c7 : Code := { maxStack := 2, maxLocals := 2, code := jdk_52_method_15_code, exceptionTable := #[], attributes := #[] }
def k8m7 : Method := { name := "coderFromArrayLen", desc := "([BI)B", sig := { parameters := [(.array .byte), .int], returnType := some .byte }, accessFlags := 8, code := some k8c7 }
def k8c8 : Code := { maxStack := 5, maxLocals := 6, code := jdk_52_method_16_code, exceptionTable := #[], attributes := #[] }
def k8m8 : Method := { name := "compress", desc := "([CII)[B", sig := { parameters := [(.array .char), .int, .int], returnType := some (.array .byte) }, accessFlags := 9, code := some k8c8 }
def k8c9 : Code := { maxStack := 3, maxLocals := 7, code := jdk_52_method_21_code, exceptionTable := #[], attributes := #[] }
def k8m9 : Method := { name := "compress", desc := "([CI[BII)I", sig := { parameters := [(.array .char), .int, (.array .byte), .int, .int], returnType := some .int }, accessFlags := 9, code := some k8c9 }
def k8c10 : Code := { maxStack := 2, maxLocals := 2, code := jdk_52_method_83_code, exceptionTable := #[], attributes := #[] }
def k8m10 : Method := { name := "charAt", desc := "([BI)C", sig := { parameters := [(.array .byte), .int], returnType := some .char }, accessFlags := 9, code := some k8c10 }
def k8c11 : Code := { maxStack := 2, maxLocals := 2, code := jdk_52_method_91_code, exceptionTable := #[], attributes := #[] }
def k8m11 : Method := { name := "checkIndex", desc := "(I[B)V", sig := { parameters := [.int, (.array .byte)], returnType := none }, accessFlags := 9, code := some k8c11 }
/-- java/lang/StringUTF16 -/
def k8 : Class := { plain "java/lang/StringUTF16" (some 0) with
  accessFlags := 48
  interfaces := #[]
  cf := some (fileOf pool8 12 #[.nestMembers #[627, 629, 369]] #[{ accessFlags := 0, nameIndex := 9, descriptorIndex := 10, attributes := #[] }, { accessFlags := 9, nameIndex := 109, descriptorIndex := 110, attributes := #[] }, { accessFlags := 9, nameIndex := 15, descriptorIndex := 16, attributes := #[] }, { accessFlags := 8, nameIndex := 113, descriptorIndex := 114, attributes := #[] }, { accessFlags := 8, nameIndex := 73, descriptorIndex := 74, attributes := #[] }, { accessFlags := 9, nameIndex := 50, descriptorIndex := 51, attributes := #[] }, { accessFlags := 9, nameIndex := 121, descriptorIndex := 122, attributes := #[] }, { accessFlags := 8, nameIndex := 261, descriptorIndex := 262, attributes := #[] }, { accessFlags := 9, nameIndex := 117, descriptorIndex := 122, attributes := #[] }, { accessFlags := 9, nameIndex := 117, descriptorIndex := 118, attributes := #[] }, { accessFlags := 9, nameIndex := 392, descriptorIndex := 74, attributes := #[] }, { accessFlags := 9, nameIndex := 69, descriptorIndex := 70, attributes := #[] }] 48 6 #[] #[{ accessFlags := 26, nameIndex := 61, descriptorIndex := 62, attributes := #[] }, { accessFlags := 26, nameIndex := 65, descriptorIndex := 62, attributes := #[] }, { accessFlags := 24, nameIndex := 430, descriptorIndex := 62, attributes := #[] }, { accessFlags := 4120, nameIndex := 46, descriptorIndex := 47, attributes := #[] }])
  fields := #[{ name := "HI_BYTE_SHIFT", type := .int, accessFlags := 26, slot := 0, constantValue := 0 }, { name := "LO_BYTE_SHIFT", type := .int, accessFlags := 26, slot := 1, constantValue := 0 }, { name := "MAX_LENGTH", type := .int, accessFlags := 24, slot := 2, constantValue := 0 }, { name := "$assertionsDisabled", type := .boolean, accessFlags := 4120, slot := 3, constantValue := 0 }]
  methods := #[k8m0, k8m1, k8m2, k8m3, k8m4, k8m5, k8m6, k8m7, k8m8, k8m9, k8m10, k8m11]
  instanceTypes := #[]
  staticTypes := #[.int, .int, .int, .boolean]
  resolved := Array.replicate 635 none
  statics := some 1 }

def pool9 : Array CpInfo := pool [(1, .methodref 2 3), (0, .class_ 4), (0, .nameAndType 5 6), (0, u "java/lang/Object"), (0, u "<init>"), (0, u "()V"), (0, .fieldref 8 9), (0, .class_ 10), (0, .nameAndType 11 12), (0, u "com/example/tranche/tranche/document/SourceLine"), (0, u "number"), (0, u "I"), (0, .fieldref 8 14), (0, .nameAndType 15 16), (0, u "text"), (0, u "Ljava/lang/String;"), (0, .fieldref 8 18), (0, .nameAndType 19 12), (0, u "start"), (0, .fieldref 8 21), (0, .nameAndType 22 12), (0, u "end"), (1, .class_ 26), (1, u "java/lang/String"), (7, u "(II)I"), (6, u "bytesBetween"), (0, .methodref 24 43), (0, .nameAndType 44 45), (0, u "charAt"), (0, u "(I)C"), (1, .class_ 49), (1, u "java/lang/Character"), (11, .methodref 8 62), (0, .nameAndType 63 64), (0, u "utf8Length"), (0, u "(C)I"), (0, .methodref 47 66), (0, .nameAndType 67 68), (0, u "isSurrogate"), (0, u "(C)Z"), (0, u "(ILjava/lang/String;II)V")] 23

def k9c0 : Code := { maxStack := 2, maxLocals := 5, code := prog_23_method_1_code, exceptionTable := #[], attributes := #[] }
def k9m0 : Method := { name := "<init>", desc := "(ILjava/lang/String;II)V", sig := { parameters := [.int, (.object "java/lang/String"), .int, .int], returnType := none }, accessFlags := 0, code := some k9c0 }
def k9c1 : Code := { maxStack := 3, maxLocals := 5, code := prog_23_method_8_code, exceptionTable := #[], attributes := #[] }
def k9m1 : Method := { name := "bytesBetween", desc := "(II)I", sig := { parameters := [.int, .int], returnType := some .int }, accessFlags := 0, code := some k9c1 }
def k9c2 : Code := { maxStack := 2, maxLocals := 2, code := prog_23_method_9_code, exceptionTable := #[], attributes := #[] }
def k9m2 : Method := { name := "utf8Length", desc := "(C)I", sig := { parameters := [.char], returnType := some .int }, accessFlags := 10, code := some k9c2 }
/-- com/example/tranche/tranche/document/SourceLine -/
def k9 : Class := { plain "com/example/tranche/tranche/document/SourceLine" (some 0) with
  accessFlags := 33
  interfaces := #[]
  cf := some (fileOf pool9 8 #[] #[{ accessFlags := 0, nameIndex := 5, descriptorIndex := 69, attributes := #[] }, { accessFlags := 0, nameIndex := 41, descriptorIndex := 34, attributes := #[] }, { accessFlags := 10, nameIndex := 63, descriptorIndex := 64, attributes := #[] }] 33 2 #[] #[{ accessFlags := 18, nameIndex := 11, descriptorIndex := 12, attributes := #[] }, { accessFlags := 18, nameIndex := 15, descriptorIndex := 16, attributes := #[] }, { accessFlags := 18, nameIndex := 19, descriptorIndex := 12, attributes := #[] }, { accessFlags := 18, nameIndex := 22, descriptorIndex := 12, attributes := #[] }])
  fields := #[{ name := "number", type := .int, accessFlags := 18, slot := 0, constantValue := 0 }, { name := "text", type := (.object "java/lang/String"), accessFlags := 18, slot := 1, constantValue := 0 }, { name := "start", type := .int, accessFlags := 18, slot := 2, constantValue := 0 }, { name := "end", type := .int, accessFlags := 18, slot := 3, constantValue := 0 }]
  methods := #[k9m0, k9m1, k9m2]
  instanceTypes := #[.int, (.object "java/lang/String"), .int, .int]
  staticTypes := #[]
  resolved := Array.replicate 93 none
  statics := none }

def pool10 : Array CpInfo := pool [(2, .class_ 4), (1, u "java/lang/Object"), (0, u "<init>"), (0, u "()V"), (17, .class_ 26), (1, u "jdk/internal/util/Preconditions"), (6, u "checkIndex"), (21, .class_ 56), (0, u "jdk/internal/util/Preconditions$4"), (57, .class_ 115), (0, u "jdk/internal/util/Preconditions$1"), (7, u "SIOOBE_FORMATTER"), (0, u "Ljava/util/function/BiFunction;"), (0, .class_ 126), (0, u "jdk/internal/util/Preconditions$2"), (3, u "AIOOBE_FORMATTER"), (0, .class_ 132), (0, u "jdk/internal/util/Preconditions$3"), (3, u "IOOBE_FORMATTER"), (41, u "(IILjava/util/function/BiFunction;)I")] 15

def k10m0 : Method := { name := "<init>", desc := "()V", sig := { parameters := [], returnType := none }, accessFlags := 1, code := none }
def k10c1 : Code := { maxStack := 3, maxLocals := 3, code := jdk_41_method_11_code, exceptionTable := #[], attributes := #[] }
def k10m1 : Method := { name := "checkIndex", desc := "(IILjava/util/function/BiFunction;)I", sig := { parameters := [.int, .int, (.object "java/util/function/BiFunction")], returnType := some .int }, accessFlags := 9, code := some k10c1 }
/-- jdk/internal/util/Preconditions -/
def k10 : Class := { plain "jdk/internal/util/Preconditions" (some 0) with
  accessFlags := 33
  interfaces := #[]
  cf := some (fileOf pool10 24 #[.nestMembers #[55, 131, 125, 114]] #[{ accessFlags := 1, nameIndex := 5, descriptorIndex := 6, attributes := #[] }, { accessFlags := 9, nameIndex := 33, descriptorIndex := 178, attributes := #[] }] 33 2 #[] #[{ accessFlags := 25, nameIndex := 123, descriptorIndex := 124, attributes := #[] }, { accessFlags := 25, nameIndex := 130, descriptorIndex := 124, attributes := #[] }, { accessFlags := 25, nameIndex := 136, descriptorIndex := 124, attributes := #[] }])
  fields := #[{ name := "SIOOBE_FORMATTER", type := (.object "java/util/function/BiFunction"), accessFlags := 25, slot := 0, constantValue := 0 }, { name := "AIOOBE_FORMATTER", type := (.object "java/util/function/BiFunction"), accessFlags := 25, slot := 1, constantValue := 0 }, { name := "IOOBE_FORMATTER", type := (.object "java/util/function/BiFunction"), accessFlags := 25, slot := 2, constantValue := 0 }]
  methods := #[k10m0, k10m1]
  instanceTypes := #[]
  staticTypes := #[(.object "java/util/function/BiFunction"), (.object "java/util/function/BiFunction"), (.object "java/util/function/BiFunction")]
  resolved := Array.replicate 194 none
  statics := some 2 }

def pool11 : Array CpInfo := pool [(1, .class_ 2), (0, u "java/lang/Character"), (18, u "value"), (0, u "C"), (19, .class_ 44), (1, u "java/lang/Object"), (3, .class_ 50), (1, u "java/lang/Character$CharacterCache"), (24, .integer 55296), (1, .integer 57344), (3, u "(C)Z"), (202, u "$assertionsDisabled"), (0, u "Z"), (21, .class_ 309), (1, u "java/lang/Character$UnicodeBlock"), (73, u "TYPE"), (0, u "Ljava/lang/Class;"), (0, .class_ 386), (0, u "java/io/Serializable"), (0, .class_ 388), (0, u "java/lang/Comparable"), (0, .class_ 390), (0, u "java/lang/constant/Constable"), (0, u "MIN_RADIX"), (0, u "I"), (2, u "MAX_RADIX"), (1, u "MIN_VALUE"), (1, u "MAX_VALUE"), (3, u "UNASSIGNED"), (0, u "B"), (0, u "UPPERCASE_LETTER"), (1, u "LOWERCASE_LETTER"), (0, u "TITLECASE_LETTER"), (1, u "MODIFIER_LETTER"), (1, u "OTHER_LETTER"), (1, u "NON_SPACING_MARK"), (1, u "ENCLOSING_MARK"), (1, u "COMBINING_SPACING_MARK"), (1, u "DECIMAL_DIGIT_NUMBER"), (1, u "LETTER_NUMBER"), (1, u "OTHER_NUMBER"), (1, u "SPACE_SEPARATOR"), (1, u "LINE_SEPARATOR"), (1, u "PARAGRAPH_SEPARATOR"), (1, u "CONTROL"), (1, u "FORMAT"), (1, u "PRIVATE_USE"), (1, u "SURROGATE"), (1, u "DASH_PUNCTUATION"), (1, u "START_PUNCTUATION"), (1, u "END_PUNCTUATION"), (1, u "CONNECTOR_PUNCTUATION"), (1, u "OTHER_PUNCTUATION"), (1, u "MATH_SYMBOL"), (1, u "CURRENCY_SYMBOL"), (1, u "MODIFIER_SYMBOL"), (1, u "OTHER_SYMBOL"), (1, u "INITIAL_QUOTE_PUNCTUATION"), (1, u "FINAL_QUOTE_PUNCTUATION"), (1, u "ERROR"), (1, u "DIRECTIONALITY_UNDEFINED"), (0, u "DIRECTIONALITY_LEFT_TO_RIGHT"), (0, u "DIRECTIONALITY_RIGHT_TO_LEFT"), (0, u "DIRECTIONALITY_RIGHT_TO_LEFT_ARABIC"), (0, u "DIRECTIONALITY_EUROPEAN_NUMBER"), (0, u "DIRECTIONALITY_EUROPEAN_NUMBER_SEPARATOR"), (0, u "DIRECTIONALITY_EUROPEAN_NUMBER_TERMINATOR"), (0, u "DIRECTIONALITY_ARABIC_NUMBER"), (0, u "DIRECTIONALITY_COMMON_NUMBER_SEPARATOR"), (0, u "DIRECTIONALITY_NONSPACING_MARK"), (0, u "DIRECTIONALITY_BOUNDARY_NEUTRAL"), (0, u "DIRECTIONALITY_PARAGRAPH_SEPARATOR"), (0, u "DIRECTIONALITY_SEGMENT_SEPARATOR"), (0, u "DIRECTIONALITY_WHITESPACE"), (0, u "DIRECTIONALITY_OTHER_NEUTRALS"), (0, u "DIRECTIONALITY_LEFT_TO_RIGHT_EMBEDDING"), (0, u "DIRECTIONALITY_LEFT_TO_RIGHT_OVERRIDE"), (0, u "DIRECTIONALITY_RIGHT_TO_LEFT_EMBEDDING"), (0, u "DIRECTIONALITY_RIGHT_TO_LEFT_OVERRIDE"), (1, u "DIRECTIONALITY_POP_DIRECTIONAL_FORMAT"), (0, u "DIRECTIONALITY_LEFT_TO_RIGHT_ISOLATE"), (0, u "DIRECTIONALITY_RIGHT_TO_LEFT_ISOLATE"), (0, u "DIRECTIONALITY_FIRST_STRONG_ISOLATE"), (0, u "DIRECTIONALITY_POP_DIRECTIONAL_ISOLATE"), (0, u "MIN_HIGH_SURROGATE"), (0, u "MAX_HIGH_SURROGATE"), (1, u "MIN_LOW_SURROGATE"), (0, u "MAX_LOW_SURROGATE"), (1, u "MIN_SURROGATE"), (0, u "MAX_SURROGATE"), (0, u "MIN_SUPPLEMENTARY_CODE_POINT"), (0, u "MIN_CODE_POINT"), (0, u "MAX_CODE_POINT"), (1, u "serialVersionUID"), (0, u "J"), (2, u "SIZE"), (0, u "BYTES"), (24, u "isSurrogate"), (63, .class_ 596), (0, u "java/lang/Character$UnicodeScript"), (0, .class_ 598), (0, u "java/lang/Character$Subset")] 5

def k11c0 : Code := { maxStack := 2, maxLocals := 1, code := jdk_89_method_16_code, exceptionTable := #[], attributes := #[] }
def k11m0 : Method := { name := "isSurrogate", desc := "(C)Z", sig := { parameters := [.char], returnType := some .boolean }, accessFlags := 9, code := some k11c0 }
/-- java/lang/Character -/
def k11 : Class := { plain "java/lang/Character" (some 0) with
  accessFlags := 49
  interfaces := #[2, 3, 5]
  cf := some (fileOf pool11 1 #[.nestMembers #[48, 595, 307, 597]] #[{ accessFlags := 9, nameIndex := 531, descriptorIndex := 81, attributes := #[] }] 49 42 #[385, 387, 389] #[{ accessFlags := 25, nameIndex := 391, descriptorIndex := 392, attributes := #[] }, { accessFlags := 25, nameIndex := 395, descriptorIndex := 392, attributes := #[] }, { accessFlags := 25, nameIndex := 397, descriptorIndex := 22, attributes := #[] }, { accessFlags := 25, nameIndex := 399, descriptorIndex := 22, attributes := #[] }, { accessFlags := 25, nameIndex := 383, descriptorIndex := 384, attributes := #[] }, { accessFlags := 25, nameIndex := 403, descriptorIndex := 404, attributes := #[] }, { accessFlags := 25, nameIndex := 405, descriptorIndex := 404, attributes := #[] }, { accessFlags := 25, nameIndex := 407, descriptorIndex := 404, attributes := #[] }, { accessFlags := 25, nameIndex := 408, descriptorIndex := 404, attributes := #[] }, { accessFlags := 25, nameIndex := 410, descriptorIndex := 404, attributes := #[] }, { accessFlags := 25, nameIndex := 412, descriptorIndex := 404, attributes := #[] }, { accessFlags := 25, nameIndex := 414, descriptorIndex := 404, attributes := #[] }, { accessFlags := 25, nameIndex := 416, descriptorIndex := 404, attributes := #[] }, { accessFlags := 25, nameIndex := 418, descriptorIndex := 404, attributes := #[] }, { accessFlags := 25, nameIndex := 420, descriptorIndex := 404, attributes := #[] }, { accessFlags := 25, nameIndex := 422, descriptorIndex := 404, attributes := #[] }, { accessFlags := 25, nameIndex := 424, descriptorIndex := 404, attributes := #[] }, { accessFlags := 25, nameIndex := 426, descriptorIndex := 404, attributes := #[] }, { accessFlags := 25, nameIndex := 428, descriptorIndex := 404, attributes := #[] }, { accessFlags := 25, nameIndex := 430, descriptorIndex := 404, attributes := #[] }, { accessFlags := 25, nameIndex := 432, descriptorIndex := 404, attributes := #[] }, { accessFlags := 25, nameIndex := 434, descriptorIndex := 404, attributes := #[] }, { accessFlags := 25, nameIndex := 436, descriptorIndex := 404, attributes := #[] }, { accessFlags := 25, nameIndex := 438, descriptorIndex := 404, attributes := #[] }, { accessFlags := 25, nameIndex := 440, descriptorIndex := 404, attributes := #[] }, { accessFlags := 25, nameIndex := 442, descriptorIndex := 404, attributes := #[] }, { accessFlags := 25, nameIndex := 444, descriptorIndex := 404, attributes := #[] }, { accessFlags := 25, nameIndex := 446, descriptorIndex := 404, attributes := #[] }, { accessFlags := 25, nameIndex := 448, descriptorIndex := 404, attributes := #[] }, { accessFlags := 25, nameIndex := 450, descriptorIndex := 404, attributes := #[] }, { accessFlags := 25, nameIndex := 452, descriptorIndex := 404, attributes := #[] }, { accessFlags := 25, nameIndex := 454, descriptorIndex := 404, attributes := #[] }, { accessFlags := 25, nameIndex := 456, descriptorIndex := 404, attributes := #[] }, { accessFlags := 25, nameIndex := 458, descriptorIndex := 404, attributes := #[] }, { accessFlags := 25, nameIndex := 460, descriptorIndex := 404, attributes := #[] }, { accessFlags := 24, nameIndex := 462, descriptorIndex := 392, attributes := #[] }, { accessFlags := 25, nameIndex := 464, descriptorIndex := 404, attributes := #[] }, { accessFlags := 25, nameIndex := 465, descriptorIndex := 404, attributes := #[] }, { accessFlags := 25, nameIndex := 466, descriptorIndex := 404, attributes := #[] }, { accessFlags := 25, nameIndex := 467, descriptorIndex := 404, attributes := #[] }, { accessFlags := 25, nameIndex := 468, descriptorIndex := 404, attributes := #[] }, { accessFlags := 25, nameIndex := 469, descriptorIndex := 404, attributes := #[] }, { accessFlags := 25, nameIndex := 470, descriptorIndex := 404, attributes := #[] }, { accessFlags := 25, nameIndex := 471, descriptorIndex := 404, attributes := #[] }, { accessFlags := 25, nameIndex := 472, descriptorIndex := 404, attributes := #[] }, { accessFlags := 25, nameIndex := 473, descriptorIndex := 404, attributes := #[] }, { accessFlags := 25, nameIndex := 474, descriptorIndex := 404, attributes := #[] }, { accessFlags := 25, nameIndex := 475, descriptorIndex := 404, attributes := #[] }, { accessFlags := 25, nameIndex := 476, descriptorIndex := 404, attributes := #[] }, { accessFlags := 25, nameIndex := 477, descriptorIndex := 404, attributes := #[] }, { accessFlags := 25, nameIndex := 478, descriptorIndex := 404, attributes := #[] }, { accessFlags := 25, nameIndex := 479, descriptorIndex := 404, attributes := #[] }, { accessFlags := 25, nameIndex := 480, descriptorIndex := 404, attributes := #[] }, { accessFlags := 25, nameIndex := 481, descriptorIndex := 404, attributes := #[] }, { accessFlags := 25, nameIndex := 482, descriptorIndex := 404, attributes := #[] }, { accessFlags := 25, nameIndex := 484, descriptorIndex := 404, attributes := #[] }, { accessFlags := 25, nameIndex := 485, descriptorIndex := 404, attributes := #[] }, { accessFlags := 25, nameIndex := 486, descriptorIndex := 404, attributes := #[] }, { accessFlags := 25, nameIndex := 487, descriptorIndex := 404, attributes := #[] }, { accessFlags := 25, nameIndex := 488, descriptorIndex := 404, attributes := #[] }, { accessFlags := 25, nameIndex := 489, descriptorIndex := 22, attributes := #[] }, { accessFlags := 25, nameIndex := 490, descriptorIndex := 22, attributes := #[] }, { accessFlags := 25, nameIndex := 492, descriptorIndex := 22, attributes := #[] }, { accessFlags := 25, nameIndex := 493, descriptorIndex := 22, attributes := #[] }, { accessFlags := 25, nameIndex := 495, descriptorIndex := 22, attributes := #[] }, { accessFlags := 25, nameIndex := 496, descriptorIndex := 22, attributes := #[] }, { accessFlags := 25, nameIndex := 497, descriptorIndex := 392, attributes := #[] }, { accessFlags := 25, nameIndex := 498, descriptorIndex := 392, attributes := #[] }, { accessFlags := 25, nameIndex := 499, descriptorIndex := 392, attributes := #[] }, { accessFlags := 18, nameIndex := 21, descriptorIndex := 22, attributes := #[] }, { accessFlags := 26, nameIndex := 501, descriptorIndex := 502, attributes := #[] }, { accessFlags := 25, nameIndex := 505, descriptorIndex := 392, attributes := #[] }, { accessFlags := 25, nameIndex := 506, descriptorIndex := 392, attributes := #[] }, { accessFlags := 4120, nameIndex := 284, descriptorIndex := 285, attributes := #[] }])
  fields := #[{ name := "MIN_RADIX", type := .int, accessFlags := 25, slot := 0, constantValue := 0 }, { name := "MAX_RADIX", type := .int, accessFlags := 25, slot := 1, constantValue := 0 }, { name := "MIN_VALUE", type := .char, accessFlags := 25, slot := 2, constantValue := 0 }, { name := "MAX_VALUE", type := .char, accessFlags := 25, slot := 3, constantValue := 0 }, { name := "TYPE", type := (.object "java/lang/Class"), accessFlags := 25, slot := 4, constantValue := 0 }, { name := "UNASSIGNED", type := .byte, accessFlags := 25, slot := 5, constantValue := 0 }, { name := "UPPERCASE_LETTER", type := .byte, accessFlags := 25, slot := 6, constantValue := 0 }, { name := "LOWERCASE_LETTER", type := .byte, accessFlags := 25, slot := 7, constantValue := 0 }, { name := "TITLECASE_LETTER", type := .byte, accessFlags := 25, slot := 8, constantValue := 0 }, { name := "MODIFIER_LETTER", type := .byte, accessFlags := 25, slot := 9, constantValue := 0 }, { name := "OTHER_LETTER", type := .byte, accessFlags := 25, slot := 10, constantValue := 0 }, { name := "NON_SPACING_MARK", type := .byte, accessFlags := 25, slot := 11, constantValue := 0 }, { name := "ENCLOSING_MARK", type := .byte, accessFlags := 25, slot := 12, constantValue := 0 }, { name := "COMBINING_SPACING_MARK", type := .byte, accessFlags := 25, slot := 13, constantValue := 0 }, { name := "DECIMAL_DIGIT_NUMBER", type := .byte, accessFlags := 25, slot := 14, constantValue := 0 }, { name := "LETTER_NUMBER", type := .byte, accessFlags := 25, slot := 15, constantValue := 0 }, { name := "OTHER_NUMBER", type := .byte, accessFlags := 25, slot := 16, constantValue := 0 }, { name := "SPACE_SEPARATOR", type := .byte, accessFlags := 25, slot := 17, constantValue := 0 }, { name := "LINE_SEPARATOR", type := .byte, accessFlags := 25, slot := 18, constantValue := 0 }, { name := "PARAGRAPH_SEPARATOR", type := .byte, accessFlags := 25, slot := 19, constantValue := 0 }, { name := "CONTROL", type := .byte, accessFlags := 25, slot := 20, constantValue := 0 }, { name := "FORMAT", type := .byte, accessFlags := 25, slot := 21, constantValue := 0 }, { name := "PRIVATE_USE", type := .byte, accessFlags := 25, slot := 22, constantValue := 0 }, { name := "SURROGATE", type := .byte, accessFlags := 25, slot := 23, constantValue := 0 }, { name := "DASH_PUNCTUATION", type := .byte, accessFlags := 25, slot := 24, constantValue := 0 }, { name := "START_PUNCTUATION", type := .byte, accessFlags := 25, slot := 25, constantValue := 0 }, { name := "END_PUNCTUATION", type := .byte, accessFlags := 25, slot := 26, constantValue := 0 }, { name := "CONNECTOR_PUNCTUATION", type := .byte, accessFlags := 25, slot := 27, constantValue := 0 }, { name := "OTHER_PUNCTUATION", type := .byte, accessFlags := 25, slot := 28, constantValue := 0 }, { name := "MATH_SYMBOL", type := .byte, accessFlags := 25, slot := 29, constantValue := 0 }, { name := "CURRENCY_SYMBOL", type := .byte, accessFlags := 25, slot := 30, constantValue := 0 }, { name := "MODIFIER_SYMBOL", type := .byte, accessFlags := 25, slot := 31, constantValue := 0 }, { name := "OTHER_SYMBOL", type := .byte, accessFlags := 25, slot := 32, constantValue := 0 }, { name := "INITIAL_QUOTE_PUNCTUATION", type := .byte, accessFlags := 25, slot := 33, constantValue := 0 }, { name := "FINAL_QUOTE_PUNCTUATION", type := .byte, accessFlags := 25, slot := 34, constantValue := 0 }, { name := "ERROR", type := .int, accessFlags := 24, slot := 35, constantValue := 0 }, { name := "DIRECTIONALITY_UNDEFINED", type := .byte, accessFlags := 25, slot := 36, constantValue := 0 }, { name := "DIRECTIONALITY_LEFT_TO_RIGHT", type := .byte, accessFlags := 25, slot := 37, constantValue := 0 }, { name := "DIRECTIONALITY_RIGHT_TO_LEFT", type := .byte, accessFlags := 25, slot := 38, constantValue := 0 }, { name := "DIRECTIONALITY_RIGHT_TO_LEFT_ARABIC", type := .byte, accessFlags := 25, slot := 39, constantValue := 0 }, { name := "DIRECTIONALITY_EUROPEAN_NUMBER", type := .byte, accessFlags := 25, slot := 40, constantValue := 0 }, { name := "DIRECTIONALITY_EUROPEAN_NUMBER_SEPARATOR", type := .byte, accessFlags := 25, slot := 41, constantValue := 0 }, { name := "DIRECTIONALITY_EUROPEAN_NUMBER_TERMINATOR", type := .byte, accessFlags := 25, slot := 42, constantValue := 0 }, { name := "DIRECTIONALITY_ARABIC_NUMBER", type := .byte, accessFlags := 25, slot := 43, constantValue := 0 }, { name := "DIRECTIONALITY_COMMON_NUMBER_SEPARATOR", type := .byte, accessFlags := 25, slot := 44, constantValue := 0 }, { name := "DIRECTIONALITY_NONSPACING_MARK", type := .byte, accessFlags := 25, slot := 45, constantValue := 0 }, { name := "DIRECTIONALITY_BOUNDARY_NEUTRAL", type := .byte, accessFlags := 25, slot := 46, constantValue := 0 }, { name := "DIRECTIONALITY_PARAGRAPH_SEPARATOR", type := .byte, accessFlags := 25, slot := 47, constantValue := 0 }, { name := "DIRECTIONALITY_SEGMENT_SEPARATOR", type := .byte, accessFlags := 25, slot := 48, constantValue := 0 }, { name := "DIRECTIONALITY_WHITESPACE", type := .byte, accessFlags := 25, slot := 49, constantValue := 0 }, { name := "DIRECTIONALITY_OTHER_NEUTRALS", type := .byte, accessFlags := 25, slot := 50, constantValue := 0 }, { name := "DIRECTIONALITY_LEFT_TO_RIGHT_EMBEDDING", type := .byte, accessFlags := 25, slot := 51, constantValue := 0 }, { name := "DIRECTIONALITY_LEFT_TO_RIGHT_OVERRIDE", type := .byte, accessFlags := 25, slot := 52, constantValue := 0 }, { name := "DIRECTIONALITY_RIGHT_TO_LEFT_EMBEDDING", type := .byte, accessFlags := 25, slot := 53, constantValue := 0 }, { name := "DIRECTIONALITY_RIGHT_TO_LEFT_OVERRIDE", type := .byte, accessFlags := 25, slot := 54, constantValue := 0 }, { name := "DIRECTIONALITY_POP_DIRECTIONAL_FORMAT", type := .byte, accessFlags := 25, slot := 55, constantValue := 0 }, { name := "DIRECTIONALITY_LEFT_TO_RIGHT_ISOLATE", type := .byte, accessFlags := 25, slot := 56, constantValue := 0 }, { name := "DIRECTIONALITY_RIGHT_TO_LEFT_ISOLATE", type := .byte, accessFlags := 25, slot := 57, constantValue := 0 }, { name := "DIRECTIONALITY_FIRST_STRONG_ISOLATE", type := .byte, accessFlags := 25, slot := 58, constantValue := 0 }, { name := "DIRECTIONALITY_POP_DIRECTIONAL_ISOLATE", type := .byte, accessFlags := 25, slot := 59, constantValue := 0 }, { name := "MIN_HIGH_SURROGATE", type := .char, accessFlags := 25, slot := 60, constantValue := 0 }, { name := "MAX_HIGH_SURROGATE", type := .char, accessFlags := 25, slot := 61, constantValue := 0 }, { name := "MIN_LOW_SURROGATE", type := .char, accessFlags := 25, slot := 62, constantValue := 0 }, { name := "MAX_LOW_SURROGATE", type := .char, accessFlags := 25, slot := 63, constantValue := 0 }, { name := "MIN_SURROGATE", type := .char, accessFlags := 25, slot := 64, constantValue := 0 }, { name := "MAX_SURROGATE", type := .char, accessFlags := 25, slot := 65, constantValue := 0 }, { name := "MIN_SUPPLEMENTARY_CODE_POINT", type := .int, accessFlags := 25, slot := 66, constantValue := 0 }, { name := "MIN_CODE_POINT", type := .int, accessFlags := 25, slot := 67, constantValue := 0 }, { name := "MAX_CODE_POINT", type := .int, accessFlags := 25, slot := 68, constantValue := 0 }, { name := "value", type := .char, accessFlags := 18, slot := 0, constantValue := 0 }, { name := "serialVersionUID", type := .long, accessFlags := 26, slot := 69, constantValue := 0 }, { name := "SIZE", type := .int, accessFlags := 25, slot := 70, constantValue := 0 }, { name := "BYTES", type := .int, accessFlags := 25, slot := 71, constantValue := 0 }, { name := "$assertionsDisabled", type := .boolean, accessFlags := 4120, slot := 72, constantValue := 0 }]
  methods := #[k11m0]
  instanceTypes := #[.char]
  staticTypes := #[.int, .int, .char, .char, (.object "java/lang/Class"), .byte, .byte, .byte, .byte, .byte, .byte, .byte, .byte, .byte, .byte, .byte, .byte, .byte, .byte, .byte, .byte, .byte, .byte, .byte, .byte, .byte, .byte, .byte, .byte, .byte, .byte, .byte, .byte, .byte, .byte, .int, .byte, .byte, .byte, .byte, .byte, .byte, .byte, .byte, .byte, .byte, .byte, .byte, .byte, .byte, .byte, .byte, .byte, .byte, .byte, .byte, .byte, .byte, .byte, .byte, .char, .char, .char, .char, .char, .char, .int, .int, .int, .long, .int, .int, .boolean]
  resolved := Array.replicate 604 none
  statics := none }

def pool12 : Array CpInfo := pool [(1, .class_ 2), (0, u "java/lang/String"), (1, .class_ 6), (1, u "java/lang/Object"), (0, u "<init>"), (0, u "()V"), (0, .methodref 1 10), (0, .nameAndType 11 12), (0, u "checkIndex"), (0, u "(II)V"), (1, .class_ 16), (1, u "java/lang/StringLatin1"), (36, u "([BI)C"), (67, u "$assertionsDisabled"), (0, u "Z"), (98, .class_ 223), (1, u "java/lang/StringLatin1$LinesSpliterator"), (28, u "charAt"), (137, .class_ 391), (0, u "java/lang/StringLatin1$CharsSpliterator")] 3

def k12m0 : Method := { name := "<init>", desc := "()V", sig := { parameters := [], returnType := none }, accessFlags := 0, code := none }
def k12c1 : Code := { maxStack := 2, maxLocals := 2, code := jdk_43_method_2_code, exceptionTable := #[], attributes := #[] }
def k12m1 : Method := { name := "charAt", desc := "([BI)C", sig := { parameters := [(.array .byte), .int], returnType := some .char }, accessFlags := 9, code := some k12c1 }
/-- java/lang/StringLatin1 -/
def k12 : Class := { plain "java/lang/StringLatin1" (some 0) with
  accessFlags := 48
  interfaces := #[]
  cf := some (fileOf pool12 14 #[.nestMembers #[390, 221]] #[{ accessFlags := 0, nameIndex := 7, descriptorIndex := 8, attributes := #[] }, { accessFlags := 9, nameIndex := 252, descriptorIndex := 53, attributes := #[] }] 48 4 #[] #[{ accessFlags := 4120, nameIndex := 121, descriptorIndex := 122, attributes := #[] }])
  fields := #[{ name := "$assertionsDisabled", type := .boolean, accessFlags := 4120, slot := 0, constantValue := 0 }]
  methods := #[k12m0, k12m1]
  instanceTypes := #[]
  staticTypes := #[.boolean]
  resolved := Array.replicate 395 none
  statics := none }

def pool13 : Array CpInfo := pool [(9, u "<init>"), (6, .class_ 18), (1, u "java/lang/Object"), (0, u "()V"), (1, .class_ 23), (1, u "jdk/internal/util/ArraysSupport"), (0, u "LOG2_ARRAY_LONG_INDEX_SCALE"), (0, u "I"), (2, u "U"), (0, u "Ljdk/internal/misc/Unsafe;"), (8, u "BIG_ENDIAN"), (0, u "Z"), (8, u "LOG2_BYTE_BIT_SIZE"), (4, u "LOG2_ARRAY_INT_INDEX_SCALE"), (54, u "JLA"), (0, u "Ljdk/internal/access/JavaLangAccess;"), (11, u "LOG2_ARRAY_BOOLEAN_INDEX_SCALE"), (9, u "LOG2_ARRAY_BYTE_INDEX_SCALE"), (5, u "LOG2_ARRAY_CHAR_INDEX_SCALE"), (5, u "LOG2_ARRAY_SHORT_INDEX_SCALE"), (18, u "LOG2_ARRAY_FLOAT_INDEX_SCALE"), (24, u "LOG2_ARRAY_DOUBLE_INDEX_SCALE"), (89, u "T_BOOLEAN"), (2, u "T_CHAR"), (1, u "T_FLOAT"), (1, u "T_DOUBLE"), (1, u "T_BYTE"), (1, u "T_SHORT"), (1, u "T_INT"), (1, u "T_LONG"), (1, u "SOFT_MAX_ARRAY_LENGTH")] 83

def k13m0 : Method := { name := "<init>", desc := "()V", sig := { parameters := [], returnType := none }, accessFlags := 2, code := none }
/-- jdk/internal/util/ArraysSupport -/
def k13 : Class := { plain "jdk/internal/util/ArraysSupport" (some 0) with
  accessFlags := 33
  interfaces := #[]
  cf := some (fileOf pool13 21 #[] #[{ accessFlags := 2, nameIndex := 9, descriptorIndex := 19, attributes := #[] }] 33 16 #[] #[{ accessFlags := 24, nameIndex := 28, descriptorIndex := 29, attributes := #[] }, { accessFlags := 26, nameIndex := 38, descriptorIndex := 39, attributes := #[] }, { accessFlags := 25, nameIndex := 121, descriptorIndex := 25, attributes := #[] }, { accessFlags := 25, nameIndex := 131, descriptorIndex := 25, attributes := #[] }, { accessFlags := 25, nameIndex := 137, descriptorIndex := 25, attributes := #[] }, { accessFlags := 25, nameIndex := 143, descriptorIndex := 25, attributes := #[] }, { accessFlags := 25, nameIndex := 53, descriptorIndex := 25, attributes := #[] }, { accessFlags := 25, nameIndex := 24, descriptorIndex := 25, attributes := #[] }, { accessFlags := 25, nameIndex := 162, descriptorIndex := 25, attributes := #[] }, { accessFlags := 25, nameIndex := 187, descriptorIndex := 25, attributes := #[] }, { accessFlags := 26, nameIndex := 48, descriptorIndex := 25, attributes := #[] }, { accessFlags := 25, nameIndex := 277, descriptorIndex := 25, attributes := #[] }, { accessFlags := 25, nameIndex := 280, descriptorIndex := 25, attributes := #[] }, { accessFlags := 25, nameIndex := 282, descriptorIndex := 25, attributes := #[] }, { accessFlags := 25, nameIndex := 284, descriptorIndex := 25, attributes := #[] }, { accessFlags := 25, nameIndex := 286, descriptorIndex := 25, attributes := #[] }, { accessFlags := 25, nameIndex := 288, descriptorIndex := 25, attributes := #[] }, { accessFlags := 25, nameIndex := 290, descriptorIndex := 25, attributes := #[] }, { accessFlags := 25, nameIndex := 292, descriptorIndex := 25, attributes := #[] }, { accessFlags := 26, nameIndex := 108, descriptorIndex := 109, attributes := #[] }, { accessFlags := 25, nameIndex := 294, descriptorIndex := 25, attributes := #[] }])
  fields := #[{ name := "U", type := (.object "jdk/internal/misc/Unsafe"), accessFlags := 24, slot := 0, constantValue := 0 }, { name := "BIG_ENDIAN", type := .boolean, accessFlags := 26, slot := 1, constantValue := 0 }, { name := "LOG2_ARRAY_BOOLEAN_INDEX_SCALE", type := .int, accessFlags := 25, slot := 2, constantValue := 0 }, { name := "LOG2_ARRAY_BYTE_INDEX_SCALE", type := .int, accessFlags := 25, slot := 3, constantValue := 0 }, { name := "LOG2_ARRAY_CHAR_INDEX_SCALE", type := .int, accessFlags := 25, slot := 4, constantValue := 0 }, { name := "LOG2_ARRAY_SHORT_INDEX_SCALE", type := .int, accessFlags := 25, slot := 5, constantValue := 0 }, { name := "LOG2_ARRAY_INT_INDEX_SCALE", type := .int, accessFlags := 25, slot := 6, constantValue := 0 }, { name := "LOG2_ARRAY_LONG_INDEX_SCALE", type := .int, accessFlags := 25, slot := 7, constantValue := 0 }, { name := "LOG2_ARRAY_FLOAT_INDEX_SCALE", type := .int, accessFlags := 25, slot := 8, constantValue := 0 }, { name := "LOG2_ARRAY_DOUBLE_INDEX_SCALE", type := .int, accessFlags := 25, slot := 9, constantValue := 0 }, { name := "LOG2_BYTE_BIT_SIZE", type := .int, accessFlags := 26, slot := 10, constantValue := 0 }, { name := "T_BOOLEAN", type := .int, accessFlags := 25, slot := 11, constantValue := 0 }, { name := "T_CHAR", type := .int, accessFlags := 25, slot := 12, constantValue := 0 }, { name := "T_FLOAT", type := .int, accessFlags := 25, slot := 13, constantValue := 0 }, { name := "T_DOUBLE", type := .int, accessFlags := 25, slot := 14, constantValue := 0 }, { name := "T_BYTE", type := .int, accessFlags := 25, slot := 15, constantValue := 0 }, { name := "T_SHORT", type := .int, accessFlags := 25, slot := 16, constantValue := 0 }, { name := "T_INT", type := .int, accessFlags := 25, slot := 17, constantValue := 0 }, { name := "T_LONG", type := .int, accessFlags := 25, slot := 18, constantValue := 0 }, { name := "JLA", type := (.object "jdk/internal/access/JavaLangAccess"), accessFlags := 26, slot := 19, constantValue := 0 }, { name := "SOFT_MAX_ARRAY_LENGTH", type := .int, accessFlags := 25, slot := 20, constantValue := 0 }]
  methods := #[k13m0]
  instanceTypes := #[]
  staticTypes := #[(.object "jdk/internal/misc/Unsafe"), .boolean, .int, .int, .int, .int, .int, .int, .int, .int, .int, .int, .int, .int, .int, .int, .int, .int, .int, (.object "jdk/internal/access/JavaLangAccess"), .int]
  resolved := Array.replicate 378 none
  statics := none }

def pool14 : Array CpInfo := pool [(1, u "java/lang/Cloneable"), (0, .class_ 1), (0, u "java/lang/Object"), (0, .class_ 3)] 3

/-- java/lang/Cloneable -/
def k14 : Class := { plain "java/lang/Cloneable" (some 0) with
  accessFlags := 1537
  interfaces := #[]
  cf := some (fileOf pool14 2 #[] #[] 1537 4 #[] #[])
  fields := #[]
  methods := #[]
  instanceTypes := #[]
  staticTypes := #[]
  resolved := Array.replicate 8 none
  statics := none }

/-- the primitive byte -/
def k15 : Class := { plain "byte" none with kind := .primitive 'B', accessFlags := 0x411 }
/-- [B -/
def k16 : Class := { plain "[B" (some 0) with kind := .array 15 .byte, interfaces := #[14, 2], accessFlags := 1041 }

/-- the primitive char -/
def k17 : Class := { plain "char" none with kind := .primitive 'C', accessFlags := 0x411 }
/-- [C -/
def k18 : Class := { plain "[C" (some 0) with kind := .array 17 .char, interfaces := #[14, 2], accessFlags := 1041 }

/-- the primitive int -/
def k19 : Class := { plain "int" none with kind := .primitive 'I', accessFlags := 0x411 }
/-- [I -/
def k20 : Class := { plain "[I" (some 0) with kind := .array 19 .int, interfaces := #[14, 2], accessFlags := 1041 }

def heap : Heap := #[{ cls := 7, slots := #[.long 0, .int 1, .null, .int 0, .null, .int 0, .int 0], vm := .statics 7 },
  { cls := 8, slots := #[.int 0, .int 8, .int 0, .int 1], vm := .statics 8 },
  { cls := 10, slots := #[.null, .null, .null], vm := .statics 10 }]
def classes : Array Class := #[k0, k1, k2, k3, k4, k5, k6, k7, k8, k9, k10, k11, k12, k13, k14, k15, k16, k17, k18, k19, k20]
def interned : List (Array UInt16 × Addr) := []
def slotsUsed : Nat := 14
def theMethod : MethodId := ⟨1, 3⟩
def args0 : Array Value := #[.long 7, .int 5, .int 6, .int 2, .int 1]
def aboutOver (below : List Frame) : State where
  vm := { classes := classes, interned := interned.toArray }
  heap := heap
  slotsUsed := slotsUsed
  threads := #[{ frames := .invoking theMethod args0 :: below }]
def below0 : List Frame := [.native { method := ⟨0, 0⟩, args := #[] }]
def about1 : State := aboutOver below0
def p0 : Program := .bare "" "" ""
def e0 : Env := launch0.env 0 0 0
theorem w_frames : about1.frames = Frame.invoking theMethod args0 :: below0 := rfl
set_option maxRecDepth 65536 in
theorem w_args : argsFit about1.vm theMethod args0 = true := by decide +kernel
set_option maxRecDepth 65536 in
theorem w_heap : heapFits about1 = true := by decide +kernel
set_option maxRecDepth 65536 in
theorem w_runnable : about1.curStatus? = some .runnable := by decide +kernel
set_option maxRecDepth 65536 in
theorem w_alone : about1.alone = true := by decide +kernel
set_option maxRecDepth 65536 in
theorem w_named : about1.methodNamed? x = some theMethod := by decide +kernel
set_option maxRecDepth 65536 in
theorem w_hears : about1.hears theMethod below0 = true := by decide +kernel
set_option maxRecDepth 65536 in
theorem w_ripe : about1.ripe theMethod args0 below0 = true := by decide +kernel
theorem w_running : about1.status = .running := rfl
set_option maxRecDepth 65536 in
theorem w_room : about1.hasRoom e0.platform room_1 = true :=
  launch0.hasRoom_least _ room_1 (by decide +kernel) (by decide +kernel) (by decide +kernel) (by decide +kernel) (by decide +kernel) (by decide +kernel)
theorem allAtoms_all (ts : List Jvm.Cond) (a : Array Jvm.Value) (st : Jvm.State) : (allAtoms ts).before a st = ts.all (fun c => c.before a st) := by
  induction ts with
  | nil => rfl
  | cons c t ih =>
    show (Jvm.Cond.and c (allAtoms t)).before a st = _
    rw [Jvm.Cond.before_and, ih, List.all_cons]
def words1 : List Jvm.Cond := Jvm.Cond.code x code maxLocals ret :: tables_1
/-- a 'code' word, met by the world's own term for the bytes: nothing is compared byte by byte -/
theorem code_word {y : MethodName} {bytes : ByteArray} {mx : Nat} {rt : Option FieldType} {a : Array Value} {s : State} {m : MethodId} {meth : Method} {c : Code} (h1 : s.methodNamed? y = some m) (h2 : s.vm.method? m = some meth) (h3 : meth.code = some c) (h4 : c.code = bytes)
    (h5 : (c.maxLocals == mx && c.exceptionTable.isEmpty && decide (c.maxStack ≤ mostOperands) && decide (meth.sig.returnType = rt) && !meth.locks && decide (parseMethodDescriptor y.desc = some meth.sig)) = true) : (Jvm.Cond.code y bytes mx rt).before a s = true := by
  simp only [Bool.and_eq_true, beq_iff_eq, Bool.not_eq_true', decide_eq_true_eq] at h5
  obtain ⟨⟨⟨⟨⟨g1, g2⟩, g3⟩, g4⟩, g5⟩, g6⟩ := h5
  simp [Cond.before, Cond.holds, Cond.value, h1, h2, h3, h4, g1, g2, g3, g4, g5, g6]
def isCode : Jvm.Cond → Bool
  | .code _ _ _ _ => true
  | _ => false
theorem all_split {L : List Jvm.Cond} {P : Jvm.Cond → Bool} (h1 : L.all (fun c => isCode c || P c) = true) (h2 : ∀ c ∈ L.filter isCode, P c = true) : L.all P = true := by
  refine List.all_eq_true.mpr fun c hc => ?_
  have h := List.all_eq_true.mp h1 c hc
  rcases Bool.eq_false_or_eq_true (isCode c) with hi | hi
  · exact h2 c (List.mem_filter.mpr ⟨hc, hi⟩)
  · simpa [hi] using h
set_option maxRecDepth 65536 in
theorem w_c0 : (Jvm.Cond.code x code maxLocals ret).before args0 about1 = true := code_word (m := ⟨1, 3⟩) (meth := k1m3) (c := k1c3) (by decide +kernel) rfl rfl rfl (by decide +kernel)
set_option maxRecDepth 65536 in
theorem w_c1 : (Jvm.Cond.code ({ cls := "java/lang/String", name := "<init>", desc := "([C)V" } : Jvm.MethodName) jdk_42_method_3_code (2 : Nat) (Option.none : Option Jvm.ClassFile.FieldType)).before args0 about1 = true := code_word (m := ⟨7, 1⟩) (meth := k7m1) (c := k7c1) (by decide +kernel) rfl rfl rfl (by decide +kernel)
set_option maxRecDepth 65536 in
theorem w_c2 : (Jvm.Cond.code ({ cls := "java/lang/String", name := "<init>", desc := "([CIILjava/lang/Void;)V" } : Jvm.MethodName) jdk_42_method_149_code (6 : Nat) (Option.none : Option Jvm.ClassFile.FieldType)).before args0 about1 = true := code_word (m := ⟨7, 3⟩) (meth := k7m3) (c := k7c3) (by decide +kernel) rfl rfl rfl (by decide +kernel)
set_option maxRecDepth 65536 in
theorem w_c3 : (Jvm.Cond.code ({ cls := "java/lang/Object", name := "<init>", desc := "()V" } : Jvm.MethodName) object_method_1_code (1 : Nat) (Option.none : Option Jvm.ClassFile.FieldType)).before args0 about1 = true := code_word (m := ⟨0, 0⟩) (meth := k0m0) (c := k0c0) (by decide +kernel) rfl rfl rfl (by decide +kernel)
set_option maxRecDepth 65536 in
theorem w_c4 : (Jvm.Cond.code ({ cls := "java/lang/StringUTF16", name := "compress", desc := "([CII)[B" } : Jvm.MethodName) jdk_52_method_16_code (6 : Nat) (Option.some (Jvm.ClassFile.FieldType.array Jvm.ClassFile.FieldType.byte))).before args0 about1 = true := code_word (m := ⟨8, 8⟩) (meth := k8m8) (c := k8c8) (by decide +kernel) rfl rfl rfl (by decide +kernel)
set_option maxRecDepth 65536 in
theorem w_c5 : (Jvm.Cond.code ({ cls := "java/lang/StringUTF16", name := "compress", desc := "([CI[BII)I" } : Jvm.MethodName) jdk_52_method_21_code (7 : Nat) (Option.some Jvm.ClassFile.FieldType.int)).before args0 about1 = true := code_word (m := ⟨8, 9⟩) (meth := k8m9) (c := k8c9) (by decide +kernel) rfl rfl rfl (by decide +kernel)
set_option maxRecDepth 65536 in
theorem w_c6 : (Jvm.Cond.code ({ cls := "java/lang/StringUTF16", name := "coderFromArrayLen", desc := "([BI)B" } : Jvm.MethodName) jdk_52_method_15_code (2 : Nat) (Option.some Jvm.ClassFile.FieldType.byte)).before args0 about1 = true := code_word (m := ⟨8, 7⟩) (meth := k8m7) (c := k8c7) (by decide +kernel) rfl rfl rfl (by decide +kernel)
set_option maxRecDepth 65536 in
theorem w_c7 : (Jvm.Cond.code ({ cls := "com/example/tranche/tranche/document/SourceLine", name := "<init>", desc := "(ILjava/lang/String;II)V" } : Jvm.MethodName) prog_23_method_1_code (5 : Nat) (Option.none : Option Jvm.ClassFile.FieldType)).before args0 about1 = true := code_word (m := ⟨9, 0⟩) (meth := k9m0) (c := k9c0) (by decide +kernel) rfl rfl rfl (by decide +kernel)
set_option maxRecDepth 65536 in
theorem w_c8 : (Jvm.Cond.code ({ cls := "com/example/tranche/tranche/document/SourceLine", name := "bytesBetween", desc := "(II)I" } : Jvm.MethodName) prog_23_method_8_code (5 : Nat) (Option.some Jvm.ClassFile.FieldType.int)).before args0 about1 = true := code_word (m := ⟨9, 1⟩) (meth := k9m1) (c := k9c1) (by decide +kernel) rfl rfl rfl (by decide +kernel)
set_option maxRecDepth 65536 in
theorem w_c9 : (Jvm.Cond.code ({ cls := "com/example/tranche/tranche/document/SourceLineBytesBetweenPinLaw", name := "part", desc := "(IIIC)I" } : Jvm.MethodName) method_3_code (4 : Nat) (Option.some Jvm.ClassFile.FieldType.int)).before args0 about1 = true := code_word (m := ⟨1, 2⟩) (meth := k1m2) (c := k1c2) (by decide +kernel) rfl rfl rfl (by decide +kernel)
set_option maxRecDepth 65536 in
theorem w_c10 : (Jvm.Cond.code ({ cls := "java/lang/StringUTF16", name := "toBytes", desc := "([CII)[B" } : Jvm.MethodName) jdk_52_method_14_code (5 : Nat) (Option.some (Jvm.ClassFile.FieldType.array Jvm.ClassFile.FieldType.byte))).before args0 about1 = true := code_word (m := ⟨8, 6⟩) (meth := k8m6) (c := k8c6) (by decide +kernel) rfl rfl rfl (by decide +kernel)
set_option maxRecDepth 65536 in
theorem w_c11 : (Jvm.Cond.code ({ cls := "java/lang/StringUTF16", name := "newBytesFor", desc := "(I)[B" } : Jvm.MethodName) jdk_52_method_2_code (1 : Nat) (Option.some (Jvm.ClassFile.FieldType.array Jvm.ClassFile.FieldType.byte))).before args0 about1 = true := code_word (m := ⟨8, 1⟩) (meth := k8m1) (c := k8c1) (by decide +kernel) rfl rfl rfl (by decide +kernel)
set_option maxRecDepth 65536 in
theorem w_c12 : (Jvm.Cond.code ({ cls := "java/lang/StringUTF16", name := "newBytesLength", desc := "(I)I" } : Jvm.MethodName) jdk_52_method_3_code (1 : Nat) (Option.some Jvm.ClassFile.FieldType.int)).before args0 about1 = true := code_word (m := ⟨8, 2⟩) (meth := k8m2) (c := k8c2) (by decide +kernel) rfl rfl rfl (by decide +kernel)
set_option maxRecDepth 65536 in
theorem w_c13 : (Jvm.Cond.code ({ cls := "java/lang/StringUTF16", name := "putChar", desc := "([BII)V" } : Jvm.MethodName) jdk_52_method_4_code (3 : Nat) (Option.none : Option Jvm.ClassFile.FieldType)).before args0 about1 = true := code_word (m := ⟨8, 3⟩) (meth := k8m3) (c := k8c3) (by decide +kernel) rfl rfl rfl (by decide +kernel)
set_option maxRecDepth 65536 in
theorem w_c14 : (Jvm.Cond.code ({ cls := "java/lang/StringUTF16", name := "getChar", desc := "([BI)C" } : Jvm.MethodName) jdk_52_method_5_code (2 : Nat) (Option.some Jvm.ClassFile.FieldType.char)).before args0 about1 = true := code_word (m := ⟨8, 4⟩) (meth := k8m4) (c := k8c4) (by decide +kernel) rfl rfl rfl (by decide +kernel)
set_option maxRecDepth 65536 in
theorem w_c15 : (Jvm.Cond.code ({ cls := "java/lang/String", name := "charAt", desc := "(I)C" } : Jvm.MethodName) jdk_42_method_56_code (2 : Nat) (Option.some Jvm.ClassFile.FieldType.char)).before args0 about1 = true := code_word (m := ⟨7, 2⟩) (meth := k7m2) (c := k7c2) (by decide +kernel) rfl rfl rfl (by decide +kernel)
set_option maxRecDepth 65536 in
theorem w_c16 : (Jvm.Cond.code ({ cls := "java/lang/String", name := "isLatin1", desc := "()Z" } : Jvm.MethodName) jdk_42_method_154_code (1 : Nat) (Option.some Jvm.ClassFile.FieldType.boolean)).before args0 about1 = true := code_word (m := ⟨7, 4⟩) (meth := k7m4) (c := k7c4) (by decide +kernel) rfl rfl rfl (by decide +kernel)
set_option maxRecDepth 65536 in
theorem w_c17 : (Jvm.Cond.code ({ cls := "java/lang/StringUTF16", name := "charAt", desc := "([BI)C" } : Jvm.MethodName) jdk_52_method_83_code (2 : Nat) (Option.some Jvm.ClassFile.FieldType.char)).before args0 about1 = true := code_word (m := ⟨8, 10⟩) (meth := k8m10) (c := k8c10) (by decide +kernel) rfl rfl rfl (by decide +kernel)
set_option maxRecDepth 65536 in
theorem w_c18 : (Jvm.Cond.code ({ cls := "java/lang/StringUTF16", name := "checkIndex", desc := "(I[B)V" } : Jvm.MethodName) jdk_52_method_91_code (2 : Nat) (Option.none : Option Jvm.ClassFile.FieldType)).before args0 about1 = true := code_word (m := ⟨8, 11⟩) (meth := k8m11) (c := k8c11) (by decide +kernel) rfl rfl rfl (by decide +kernel)
set_option maxRecDepth 65536 in
theorem w_c19 : (Jvm.Cond.code ({ cls := "java/lang/StringUTF16", name := "length", desc := "([B)I" } : Jvm.MethodName) jdk_52_method_6_code (1 : Nat) (Option.some Jvm.ClassFile.FieldType.int)).before args0 about1 = true := code_word (m := ⟨8, 5⟩) (meth := k8m5) (c := k8c5) (by decide +kernel) rfl rfl rfl (by decide +kernel)
set_option maxRecDepth 65536 in
theorem w_c20 : (Jvm.Cond.code ({ cls := "java/lang/String", name := "checkIndex", desc := "(II)V" } : Jvm.MethodName) jdk_42_method_155_code (2 : Nat) (Option.none : Option Jvm.ClassFile.FieldType)).before args0 about1 = true := code_word (m := ⟨7, 5⟩) (meth := k7m5) (c := k7c5) (by decide +kernel) rfl rfl rfl (by decide +kernel)
set_option maxRecDepth 65536 in
theorem w_c21 : (Jvm.Cond.code ({ cls := "jdk/internal/util/Preconditions", name := "checkIndex", desc := "(IILjava/util/function/BiFunction;)I" } : Jvm.MethodName) jdk_41_method_11_code (3 : Nat) (Option.some Jvm.ClassFile.FieldType.int)).before args0 about1 = true := code_word (m := ⟨10, 1⟩) (meth := k10m1) (c := k10c1) (by decide +kernel) rfl rfl rfl (by decide +kernel)
set_option maxRecDepth 65536 in
theorem w_c22 : (Jvm.Cond.code ({ cls := "com/example/tranche/tranche/document/SourceLine", name := "utf8Length", desc := "(C)I" } : Jvm.MethodName) prog_23_method_9_code (2 : Nat) (Option.some Jvm.ClassFile.FieldType.int)).before args0 about1 = true := code_word (m := ⟨9, 2⟩) (meth := k9m2) (c := k9c2) (by decide +kernel) rfl rfl rfl (by decide +kernel)
set_option maxRecDepth 65536 in
theorem w_c23 : (Jvm.Cond.code ({ cls := "java/lang/Character", name := "isSurrogate", desc := "(C)Z" } : Jvm.MethodName) jdk_89_method_16_code (1 : Nat) (Option.some Jvm.ClassFile.FieldType.boolean)).before args0 about1 = true := code_word (m := ⟨11, 0⟩) (meth := k11m0) (c := k11c0) (by decide +kernel) rfl rfl rfl (by decide +kernel)
set_option maxRecDepth 65536 in
theorem w_c24 : (Jvm.Cond.code ({ cls := "com/example/tranche/tranche/document/SourceLineBytesBetweenPinLaw", name := "len", desc := "(C)I" } : Jvm.MethodName) method_2_code (1 : Nat) (Option.some Jvm.ClassFile.FieldType.int)).before args0 about1 = true := code_word (m := ⟨1, 1⟩) (meth := k1m1) (c := k1c1) (by decide +kernel) rfl rfl rfl (by decide +kernel)
set_option maxRecDepth 65536 in
theorem w_c25 : (Jvm.Cond.code ({ cls := "java/lang/StringLatin1", name := "charAt", desc := "([BI)C" } : Jvm.MethodName) jdk_43_method_2_code (2 : Nat) (Option.some Jvm.ClassFile.FieldType.char)).before args0 about1 = true := code_word (m := ⟨12, 1⟩) (meth := k12m1) (c := k12c1) (by decide +kernel) rfl rfl rfl (by decide +kernel)
def codes1 : List Jvm.Cond := [Jvm.Cond.code x code maxLocals ret, Jvm.Cond.code ({ cls := "java/lang/String", name := "<init>", desc := "([C)V" } : Jvm.MethodName) jdk_42_method_3_code (2 : Nat) (Option.none : Option Jvm.ClassFile.FieldType), Jvm.Cond.code ({ cls := "java/lang/String", name := "<init>", desc := "([CIILjava/lang/Void;)V" } : Jvm.MethodName) jdk_42_method_149_code (6 : Nat) (Option.none : Option Jvm.ClassFile.FieldType), Jvm.Cond.code ({ cls := "java/lang/Object", name := "<init>", desc := "()V" } : Jvm.MethodName) object_method_1_code (1 : Nat) (Option.none : Option Jvm.ClassFile.FieldType), Jvm.Cond.code ({ cls := "java/lang/StringUTF16", name := "compress", desc := "([CII)[B" } : Jvm.MethodName) jdk_52_method_16_code (6 : Nat) (Option.some (Jvm.ClassFile.FieldType.array Jvm.ClassFile.FieldType.byte)), Jvm.Cond.code ({ cls := "java/lang/StringUTF16", name := "compress", desc := "([CI[BII)I" } : Jvm.MethodName) jdk_52_method_21_code (7 : Nat) (Option.some Jvm.ClassFile.FieldType.int), Jvm.Cond.code ({ cls := "java/lang/StringUTF16", name := "coderFromArrayLen", desc := "([BI)B" } : Jvm.MethodName) jdk_52_method_15_code (2 : Nat) (Option.some Jvm.ClassFile.FieldType.byte), Jvm.Cond.code ({ cls := "com/example/tranche/tranche/document/SourceLine", name := "<init>", desc := "(ILjava/lang/String;II)V" } : Jvm.MethodName) prog_23_method_1_code (5 : Nat) (Option.none : Option Jvm.ClassFile.FieldType), Jvm.Cond.code ({ cls := "com/example/tranche/tranche/document/SourceLine", name := "bytesBetween", desc := "(II)I" } : Jvm.MethodName) prog_23_method_8_code (5 : Nat) (Option.some Jvm.ClassFile.FieldType.int), Jvm.Cond.code ({ cls := "com/example/tranche/tranche/document/SourceLineBytesBetweenPinLaw", name := "part", desc := "(IIIC)I" } : Jvm.MethodName) method_3_code (4 : Nat) (Option.some Jvm.ClassFile.FieldType.int), Jvm.Cond.code ({ cls := "java/lang/StringUTF16", name := "toBytes", desc := "([CII)[B" } : Jvm.MethodName) jdk_52_method_14_code (5 : Nat) (Option.some (Jvm.ClassFile.FieldType.array Jvm.ClassFile.FieldType.byte)), Jvm.Cond.code ({ cls := "java/lang/StringUTF16", name := "newBytesFor", desc := "(I)[B" } : Jvm.MethodName) jdk_52_method_2_code (1 : Nat) (Option.some (Jvm.ClassFile.FieldType.array Jvm.ClassFile.FieldType.byte)), Jvm.Cond.code ({ cls := "java/lang/StringUTF16", name := "newBytesLength", desc := "(I)I" } : Jvm.MethodName) jdk_52_method_3_code (1 : Nat) (Option.some Jvm.ClassFile.FieldType.int), Jvm.Cond.code ({ cls := "java/lang/StringUTF16", name := "putChar", desc := "([BII)V" } : Jvm.MethodName) jdk_52_method_4_code (3 : Nat) (Option.none : Option Jvm.ClassFile.FieldType), Jvm.Cond.code ({ cls := "java/lang/StringUTF16", name := "getChar", desc := "([BI)C" } : Jvm.MethodName) jdk_52_method_5_code (2 : Nat) (Option.some Jvm.ClassFile.FieldType.char), Jvm.Cond.code ({ cls := "java/lang/String", name := "charAt", desc := "(I)C" } : Jvm.MethodName) jdk_42_method_56_code (2 : Nat) (Option.some Jvm.ClassFile.FieldType.char), Jvm.Cond.code ({ cls := "java/lang/String", name := "isLatin1", desc := "()Z" } : Jvm.MethodName) jdk_42_method_154_code (1 : Nat) (Option.some Jvm.ClassFile.FieldType.boolean), Jvm.Cond.code ({ cls := "java/lang/StringUTF16", name := "charAt", desc := "([BI)C" } : Jvm.MethodName) jdk_52_method_83_code (2 : Nat) (Option.some Jvm.ClassFile.FieldType.char), Jvm.Cond.code ({ cls := "java/lang/StringUTF16", name := "checkIndex", desc := "(I[B)V" } : Jvm.MethodName) jdk_52_method_91_code (2 : Nat) (Option.none : Option Jvm.ClassFile.FieldType), Jvm.Cond.code ({ cls := "java/lang/StringUTF16", name := "length", desc := "([B)I" } : Jvm.MethodName) jdk_52_method_6_code (1 : Nat) (Option.some Jvm.ClassFile.FieldType.int), Jvm.Cond.code ({ cls := "java/lang/String", name := "checkIndex", desc := "(II)V" } : Jvm.MethodName) jdk_42_method_155_code (2 : Nat) (Option.none : Option Jvm.ClassFile.FieldType), Jvm.Cond.code ({ cls := "jdk/internal/util/Preconditions", name := "checkIndex", desc := "(IILjava/util/function/BiFunction;)I" } : Jvm.MethodName) jdk_41_method_11_code (3 : Nat) (Option.some Jvm.ClassFile.FieldType.int), Jvm.Cond.code ({ cls := "com/example/tranche/tranche/document/SourceLine", name := "utf8Length", desc := "(C)I" } : Jvm.MethodName) prog_23_method_9_code (2 : Nat) (Option.some Jvm.ClassFile.FieldType.int), Jvm.Cond.code ({ cls := "java/lang/Character", name := "isSurrogate", desc := "(C)Z" } : Jvm.MethodName) jdk_89_method_16_code (1 : Nat) (Option.some Jvm.ClassFile.FieldType.boolean), Jvm.Cond.code ({ cls := "com/example/tranche/tranche/document/SourceLineBytesBetweenPinLaw", name := "len", desc := "(C)I" } : Jvm.MethodName) method_2_code (1 : Nat) (Option.some Jvm.ClassFile.FieldType.int), Jvm.Cond.code ({ cls := "java/lang/StringLatin1", name := "charAt", desc := "([BI)C" } : Jvm.MethodName) jdk_43_method_2_code (2 : Nat) (Option.some Jvm.ClassFile.FieldType.char)]
set_option maxRecDepth 65536 in
theorem codes_eq : words1.filter isCode = codes1 := rfl
theorem w_codes : ∀ c ∈ words1.filter isCode, c.before args0 about1 = true := by
  rw [codes_eq]
  intro c hc
  simp only [codes1, List.mem_cons, List.not_mem_nil, or_false] at hc
  rcases hc with rfl | rfl | rfl | rfl | rfl | rfl | rfl | rfl | rfl | rfl | rfl | rfl | rfl | rfl | rfl | rfl | rfl | rfl | rfl | rfl | rfl | rfl | rfl | rfl | rfl | rfl
  · exact w_c0
  · exact w_c1
  · exact w_c2
  · exact w_c3
  · exact w_c4
  · exact w_c5
  · exact w_c6
  · exact w_c7
  · exact w_c8
  · exact w_c9
  · exact w_c10
  · exact w_c11
  · exact w_c12
  · exact w_c13
  · exact w_c14
  · exact w_c15
  · exact w_c16
  · exact w_c17
  · exact w_c18
  · exact w_c19
  · exact w_c20
  · exact w_c21
  · exact w_c22
  · exact w_c23
  · exact w_c24
  · exact w_c25
set_option maxRecDepth 65536 in
theorem w_t1 : (words1.take 24).all (fun c => isCode c || c.before args0 about1) = true := by decide +kernel
set_option maxRecDepth 65536 in
theorem w_t2 : ((words1.drop 24).take 24).all (fun c => isCode c || c.before args0 about1) = true := by decide +kernel
set_option maxRecDepth 65536 in
theorem w_t3 : (((words1.drop 24).drop 24).take 24).all (fun c => isCode c || c.before args0 about1) = true := by decide +kernel
set_option maxRecDepth 65536 in
theorem w_t4 : ((((words1.drop 24).drop 24).drop 24).take 24).all (fun c => isCode c || c.before args0 about1) = true := by decide +kernel
set_option maxRecDepth 65536 in
theorem w_t5 : (((((words1.drop 24).drop 24).drop 24).drop 24).take 24).all (fun c => isCode c || c.before args0 about1) = true := by decide +kernel
set_option maxRecDepth 65536 in
theorem w_t6 : (((((words1.drop 24).drop 24).drop 24).drop 24).drop 24).all (fun c => isCode c || c.before args0 about1) = true := by decide +kernel
theorem w_tables : (allAtoms (Jvm.Cond.code x code maxLocals ret :: tables_1)).before args0 about1 = true := by
  rw [allAtoms_all]
  show words1.all (fun c => c.before args0 about1) = true
  refine all_split ?_ w_codes
  rw [← List.take_append_drop 24 words1, List.all_append, w_t1, ← List.take_append_drop 24 (words1.drop 24), List.all_append, w_t2, ← List.take_append_drop 24 ((words1.drop 24).drop 24), List.all_append, w_t3, ← List.take_append_drop 24 (((words1.drop 24).drop 24).drop 24), List.all_append, w_t4, ← List.take_append_drop 24 ((((words1.drop 24).drop 24).drop 24).drop 24), List.all_append, w_t5, w_t6]
  rfl
set_option maxRecDepth 65536 in
theorem w_rest : rest_1_c.before args0 about1 = true := by decide +kernel
set_option maxRecDepth 65536 in
theorem w_case : (Jvm.Cond.and given_1 narrow_1).before args0 about1 = true := by decide +kernel
theorem w_applies : (headSpec (Jvm.Cond.code x code maxLocals ret :: tables_1) room_1).applies x e0.platform about1 = true :=
  (Spec.applies_iff w_frames).mpr ⟨w_running, w_runnable, w_alone, w_named, w_hears, w_ripe, w_room, w_tables⟩
theorem atStart : AtStart classFile x code maxLocals ret World_1 tables_1 room_1 Calls_1 rest_1 Pre_1 launch0 p0 e0 about1 theMethod args0 below0 :=
  ⟨lists_1, trivial, launch0.admits_env _ _ _, launch0.least_env, fairChoices_fair.cas, fairChoices_fair.clock, w_frames, w_args, w_heap, w_applies, trivial, w_rest, w_case⟩
end start1
theorem witness_1 : WitnessClaimed_1 := ⟨start1.p0, start1.e0, start1.about1, start1.theMethod, start1.args0, start1.below0, start1.atStart⟩
end Jvm.Pilot.@@N@@
