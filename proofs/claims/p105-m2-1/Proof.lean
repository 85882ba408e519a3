import JvmDerived
import JvmDerived.Pilot.@@N@@Statement
import JvmDerived.Pilot.@@N@@Code
set_option linter.unusedVariables false
set_option linter.unusedSimpArgs false
namespace Jvm.Pilot.@@N@@
namespace Own
open Jvm Jvm.ClassFile Sem Op Lib Jvm.Free Jvm.Stand Jvm.LawKit Jvm.RoadKit Bundle
/-! A small logic of walks over the library's Stand: WP says that the run from a frame returns well; one rule an instruction; a callee by Con. -/
abbrev Ctx : Type := Program × Env × Room × State × MethodId × Array Value × List Frame × Method × Code
abbrev Ctx.p (K : Ctx) : Program := K.1
abbrev Ctx.e (K : Ctx) : Env := K.2.1
abbrev Ctx.R (K : Ctx) : Room := K.2.2.1
abbrev Ctx.s (K : Ctx) : State := K.2.2.2.1
abbrev Ctx.m (K : Ctx) : MethodId := K.2.2.2.2.1
abbrev Ctx.args (K : Ctx) : Array Value := K.2.2.2.2.2.1
abbrev Ctx.below (K : Ctx) : List Frame := K.2.2.2.2.2.2.1
abbrev Ctx.meth (K : Ctx) : Method := K.2.2.2.2.2.2.2.1
abbrev Ctx.c (K : Ctx) : Code := K.2.2.2.2.2.2.2.2
/-- RoadKit's CHr; it: whether the walk may intern -/
def CHx (it : Prop) (Z : State) (EL : List (String × Nat)) (vm : Vm) (h : Heap) (vm1 : Vm) (h' : Heap) : Prop := CHv Z EL vm1 h' ∧ h.size ≤ h'.size ∧ ∀ y, Bk Z EL vm1 h' y → Bk Z EL vm h y ∨ (it ∧ h.size ≤ y)
section CHxs
variable {it it' : Prop} {Z : State} {EL : List (String × Nat)} {vm vm1 vm2 : Vm} {h h' h2 : Heap}
theorem CHx.refl (H : CHv Z EL vm h) : CHx it Z EL vm h vm h := ⟨H, Nat.le_refl _, fun _ q => Or.inl q⟩
theorem CHx.trans (A : CHx it Z EL vm h vm1 h') (B : CHx it Z EL vm1 h' vm2 h2) : CHx it Z EL vm h vm2 h2 := ⟨B.1, Nat.le_trans A.2.1 B.2.1, fun y q => by
  rcases B.2.2 y q with q | q
  · exact A.2.2 y q
  · exact Or.inr ⟨q.1, Nat.le_trans A.2.1 q.2⟩⟩
theorem CHx.safe (A : CHx it Z EL vm h vm1 h') {x : Addr} (hx : x < h.size) (S : Safe Z EL vm h x) : Safe Z EL vm1 h' x := fun B => by
  rcases A.2.2 x B with q | q
  · exact S q
  · exact absurd hx (Nat.not_lt.mpr q.2)
theorem CHx.ext (E : Ext h h') (H : CHv Z EL vm h) : CHx it Z EL vm h vm h' := ⟨H.ext E, E.1, fun y q => Or.inl ((H.step fun _ _ _ q => E.2 _ _ q).2 y q)⟩
theorem CHx.wr {a : Addr} {sl : Nat} {v : Value} (W : Wr h h' a sl v) (S : Safe Z EL vm h a) (H : CHv Z EL vm h) : CHx it Z EL vm h vm h' := ⟨H.wr W S, Nat.le_of_eq W.size.symm, fun y q => Or.inl ((H.wrStep W S).2 y q)⟩
theorem CHx.mono (hi : it' → it) (A : CHx it' Z EL vm h vm1 h') : CHx it Z EL vm h vm1 h' := ⟨A.1, A.2.1, fun y q => (A.2.2 y q).imp id fun z => ⟨hi z.1, z.2⟩⟩
theorem CHx.of (hi : it) (A : CHr Z EL vm h vm1 h') : CHx it Z EL vm h vm1 h' := ⟨A.1, A.2.1, fun y q => (A.2.2 y q).imp id fun z => ⟨hi, z⟩⟩
/-- over the same heap nothing new is booked -/
theorem CHx.still (A : CHr Z EL vm h vm1 h) : CHx it Z EL vm h vm1 h := ⟨A.1, A.2.1, fun y q => Or.inl ((A.2.2 y q).elim id fun z => by
  obtain ⟨c, hc⟩ := q.there
  exact absurd (Array.getElem?_eq_some_iff.mp hc).1 (Nat.not_lt.mpr z))⟩
end CHxs
/-- addresses that may be written: new since the law's start, no constant's cell -/
def Owned (Z : State) (EL : List (String × Nat)) (it : Prop) (n0 : Nat) (h0 : Heap) (ws0 : List Addr) (vm : Vm) (h : Heap) (ws : List Addr) : Prop :=
  ∀ x ∈ ws, n0 ≤ x ∧ x < h.size ∧ Safe Z EL vm h x ∧ (x ∈ ws0 ∨ h0.size ≤ x)
def Pos (l : Launch) (Z : State) (EL : List (String × Nat)) (it : Prop) (n0 : Nat) (own : String) (h0 : Heap) (ws0 : List Addr) (K : Ctx) (h : Heap) (ws : List Addr) (cells slots : Nat) (vm : Vm) (T : State) (locs : List Loc) : Prop :=
  Stand K.p l K.e K.R (K.s.setVm vm) K.m K.args K.below K.meth K.c T locs cells slots ∧ T.heap = h ∧ (∃ k, K.s.Since vm k ∧ k ≤ h.size) ∧ Z.Warmed39 vm ∧ vm.findClass own = some K.m.cls ∧
  CHx it Z EL K.s.vm h0 vm h ∧ Fr n0 locs ∧ Keep h0 h ws0 ∧ Old Z n0 h ∧ Owned Z EL it n0 h0 ws0 vm h ws
def Fine (Z : State) (EL : List (String × Nat)) (it : Prop) (n0 : Nat) (h0 : Heap) (ws0 : List Addr) (Q : Option Value → Heap → Prop) (cl sl : Nat) (s : State) (o : Outcome) (t : State) : Prop :=
  ∃ v L, o = .returned v ∧ (Q v t.heap ∧ Keep h0 t.heap ws0 ∧ Fr n0 L) ∧ CHx it Z EL s.vm h0 t.vm t.heap ∧ ReturnedEndW s o t L cl sl
def Goes (Z : State) (EL : List (String × Nat)) (it : Prop) (n0 : Nat) (h0 : Heap) (ws0 : List Addr) (Q : Option Value → Heap → Prop) (K : Ctx) (S : State) : Prop :=
  ∃ s₂ o, Steps K.p.tables K.e K.below S s₂ ∧ s₂.status = .running ∧ Ended s₂ K.below o ∧ Fine Z EL it n0 h0 ws0 Q K.R.cells K.R.slots K.s o s₂
def WP (l : Launch) (Z : State) (EL : List (String × Nat)) (it : Prop) (n0 : Nat) (own : String) (h0 : Heap) (ws0 : List Addr) (Q : Option Value → Heap → Prop) (K : Ctx) (h : Heap) (ws : List Addr) (cells slots : Nat) (g : JFrame) : Prop :=
  ∀ (vm : Vm) (T : State) (locs : List Loc), Pos l Z EL it n0 own h0 ws0 K h ws cells slots vm T locs → Goes Z EL it n0 h0 ws0 Q K (T.setTop g)
/-- what the walk knows of its own method -/
def Ok (l : Launch) (Z : State) (a0 : Array Value) (EL : List (String × Nat)) (it : Prop) (n0 : Nat) (own : String) (h0 : Heap) (ws0 : List Addr) (Q : Option Value → Heap → Prop) (code : ByteArray) (maxL : Nat) (ret : Option FieldType) (nm : String) (rm : Room) (K : Ctx) : Prop :=
  K.p.tables.exec = Jvm.exec ∧ EW Z a0 EL ∧ K.c.code = code ∧ K.c.maxLocals = maxL ∧ K.meth.sig.returnType = ret ∧ K.meth.name = nm ∧ K.meth.locks = false ∧ K.R = rm
/-- a method's law, as its body gives it -/
def Met (l : Launch) (Z : State) (EL : List (String × Nat)) (it : Prop) (n0 : Nat) (y : MethodName) (bytes : ByteArray) (maxL : Nat) (ret : Option FieldType) (rm : Room) (cs : List Jvm.Cond) (as : Array Value) (h : Heap) (ws : List Addr) (Q : Option Value → Heap → Prop) : Prop :=
  MetFree l y (head1 (Jvm.Cond.code y bytes maxL ret :: cs) rm) (fun a U => a = as ∧ Z.Warmed39 U.vm ∧ U.heap = h ∧ CHv Z EL U.vm h ∧ Old Z n0 h ∧ ∀ x ∈ ws, n0 ≤ x ∧ x < h.size ∧ Safe Z EL U.vm h x) (fun _ _ _ _ _ => True)
    (fun _ U o U' => Fine Z EL it n0 h ws Q rm.cells rm.slots U o U')
/-- a method's law, as a caller takes it -/
def Con (l : Launch) (Z : State) (a0 : Array Value) (EL : List (String × Nat)) (it : Prop) (n0 : Nat) (y : MethodName) (fr lo cl sl : Nat) (as : Array Value) (h : Heap) (ws : List Addr) (Q : Option Value → Heap → Prop) : Prop :=
  ∀ (R : Room) (p : Program) (e : Env) (below : List Frame) (s : State) (args : Array Value) (len W : Nat) (vm0 : Vm), Z.Warmed39 vm0 → EW Z a0 EL → CHv Z EL vm0 h → Old Z n0 h → (∀ x ∈ ws, n0 ≤ x ∧ x < h.size ∧ Safe Z EL vm0 h x) → fr ≤ R.frames → W + lo ≤ R.locals →
    BackS l R p e below (s.setVm vm0) args y len W (fun A a => a = as ∧ A.U.heap = h ∧ A.cells + cl ≤ R.cells ∧ A.slots + sl ≤ R.slots)
      (fun A _ v B => ∃ L, (Q v B.U.heap ∧ Keep h B.U.heap ws ∧ Fr n0 L) ∧ B.locs = A.locs ++ L ∧ B.cells = A.cells + cl ∧ B.slots = A.slots + sl ∧ CHx it Z EL vm0 h B.U.vm B.U.heap)
section Rules
variable {l : Launch} {Z : State} {a0 : Array Value} {EL : List (String × Nat)} {it : Prop} {n0 : Nat} {own : String} {h0 : Heap} {ws0 : List Addr} {Q : Option Value → Heap → Prop} {code : ByteArray} {maxL : Nat} {ret : Option FieldType} {nm : String} {rm : Room} {K : Ctx} {h : Heap} {ws : List Addr} {cells slots pc : Nat} {Ls : Array Slot} {st : List Value} {g g' : JFrame}
theorem Goes.of {S S' : State} (f : ∀ t, Steps K.p.tables K.e K.below S' t → Steps K.p.tables K.e K.below S t) (k : Goes Z EL it n0 h0 ws0 Q K S') : Goes Z EL it n0 h0 ws0 Q K S := by
  obtain ⟨s₂, o, h1, h2⟩ := k
  exact ⟨s₂, o, f _ h1, h2⟩
abbrev Ok.W (C : Ok l Z a0 EL it n0 own h0 ws0 Q code maxL ret nm rm K) (h : Heap) (ws : List Addr) (cells slots : Nat) (g : JFrame) : Prop := WP l Z EL it n0 own h0 ws0 Q K h ws cells slots g
theorem Ok.exec (C : Ok l Z a0 EL it n0 own h0 ws0 Q code maxL ret nm rm K) : K.p.tables.exec = Jvm.exec := C.1
theorem Ok.ew (C : Ok l Z a0 EL it n0 own h0 ws0 Q code maxL ret nm rm K) : EW Z a0 EL := C.2.1
theorem Ok.bytes (C : Ok l Z a0 EL it n0 own h0 ws0 Q code maxL ret nm rm K) : K.c.code = code := C.2.2.1
theorem Ok.maxl (C : Ok l Z a0 EL it n0 own h0 ws0 Q code maxL ret nm rm K) : K.c.maxLocals = maxL := C.2.2.2.1
theorem Ok.rets (C : Ok l Z a0 EL it n0 own h0 ws0 Q code maxL ret nm rm K) : K.meth.sig.returnType = ret := C.2.2.2.2.1
theorem Ok.named (C : Ok l Z a0 EL it n0 own h0 ws0 Q code maxL ret nm rm K) : K.meth.name = nm := C.2.2.2.2.2.1
theorem Ok.unlocked (C : Ok l Z a0 EL it n0 own h0 ws0 Q code maxL ret nm rm K) : K.meth.locks = false := C.2.2.2.2.2.2.1
theorem Ok.room (C : Ok l Z a0 EL it n0 own h0 ws0 Q code maxL ret nm rm K) : K.R = rm := C.2.2.2.2.2.2.2
theorem WP.step (f : ∀ vm T locs, Pos l Z EL it n0 own h0 ws0 K h ws cells slots vm T locs → ∀ t, Steps K.p.tables K.e K.below (T.setTop g') t → Steps K.p.tables K.e K.below (T.setTop g) t) (r : WP l Z EL it n0 own h0 ws0 Q K h ws cells slots g') : WP l Z EL it n0 own h0 ws0 Q K h ws cells slots g :=
  fun vm T locs P => Goes.of (f vm T locs P) (r vm T locs P)
/-- what a walk may lean on, wherever it stands -/
theorem Ok.know (C : Ok l Z a0 EL it n0 own h0 ws0 Q code maxL ret nm rm K) (r : n0 ≤ h.size → Keep h0 h ws0 → Old Z n0 h → (∀ x ∈ ws, n0 ≤ x ∧ x < h.size) → WP l Z EL it n0 own h0 ws0 Q K h ws cells slots g) : WP l Z EL it n0 own h0 ws0 Q K h ws cells slots g :=
  fun vm T locs P => r (P.2.2.2.2.2.2.2.2.1.1 ▸ P.2.2.2.2.2.2.2.2.1.2.1) P.2.2.2.2.2.2.2.1 P.2.2.2.2.2.2.2.2.1 (fun x hx => ⟨(P.2.2.2.2.2.2.2.2.2 x hx).1, (P.2.2.2.2.2.2.2.2.2 x hx).2.1⟩) vm T locs P
theorem Pos.ext {vm : Vm} {T T' : State} {locs : List Loc} {h' : Heap} {cells' slots' : Nat} (P : Pos l Z EL it n0 own h0 ws0 K h ws cells slots vm T locs) (X : Stand K.p l K.e K.R (K.s.setVm vm) K.m K.args K.below K.meth K.c T' locs cells' slots') (e : T'.heap = h') (E : Ext h h') :
    Pos l Z EL it n0 own h0 ws0 K h' ws cells' slots' vm T' locs := by
  obtain ⟨-, -, ⟨k, hS, hk⟩, hZ, hown, H, N, Kp, O, Ow⟩ := P
  exact ⟨X, e, ⟨k, hS, Nat.le_trans hk E.1⟩, hZ, hown, H.trans (CHx.ext E H.1), N, Kp.ext E, O.ext E, fun x hx => ⟨(Ow x hx).1, Nat.lt_of_lt_of_le (Ow x hx).2.1 E.1, (Ow x hx).2.2.1.ext E H.1, (Ow x hx).2.2.2⟩⟩
theorem Pos.new {vm : Vm} {T T' : State} {locs : List Loc} {h' : Heap} {cells' slots' : Nat} (P : Pos l Z EL it n0 own h0 ws0 K h ws cells slots vm T locs) (X : Stand K.p l K.e K.R (K.s.setVm vm) K.m K.args K.below K.meth K.c T' locs cells' slots') (e : T'.heap = h') (E : Ext h h') (hl : h.size < h'.size) :
    Pos l Z EL it n0 own h0 ws0 K h' (h.size :: ws) cells' slots' vm T' locs := by
  have P' := P.ext X e E
  obtain ⟨-, -, -, -, -, H, -, Kp, O, -⟩ := P
  refine ⟨P'.1, P'.2.1, P'.2.2.1, P'.2.2.2.1, P'.2.2.2.2.1, P'.2.2.2.2.2.1, P'.2.2.2.2.2.2.1, P'.2.2.2.2.2.2.2.1, P'.2.2.2.2.2.2.2.2.1, fun x hx => ?_⟩
  rcases List.mem_cons.mp hx with rfl | hx
  · exact ⟨O.1 ▸ O.2.1, hl, (Safe.new (Nat.le_refl _)).ext E H.1, Or.inr Kp.1⟩
  · exact P'.2.2.2.2.2.2.2.2.2 x hx
theorem Pos.wr {vm : Vm} {T T' : State} {locs : List Loc} {h' : Heap} {a : Nat} {sl : Nat} {v : Value} (P : Pos l Z EL it n0 own h0 ws0 K h ws cells slots vm T locs) (ha : a ∈ ws) (X : Stand K.p l K.e K.R (K.s.setVm vm) K.m K.args K.below K.meth K.c T' (locs ++ [⟨a, sl⟩]) cells slots) (e : T'.heap = h') (W : Wr h h' a sl v) :
    Pos l Z EL it n0 own h0 ws0 K h' ws cells slots vm T' (locs ++ [⟨a, sl⟩]) := by
  obtain ⟨-, -, ⟨k, hS, hk⟩, hZ, hown, H, N, Kp, O, Ow⟩ := P
  obtain ⟨q1, q2, q3, q4⟩ := Ow a ha
  exact ⟨X, e, ⟨k, hS, W.size ▸ hk⟩, hZ, hown, H.trans (CHx.wr W q3 H.1), Fr.snoc X N q1, Kp.wr W q4, O.wr W q1, fun x hx => ⟨(Ow x hx).1, W.size ▸ (Ow x hx).2.1, Safe.wr W q3 H.1 (Ow x hx).2.2.1, (Ow x hx).2.2.2⟩⟩
/-! plain steps -/
theorem Ok.aloadN (C : Ok l Z a0 EL it n0 own h0 ws0 Q code maxL ret nm rm K) {k : Fin 4} {v : Value} (hd : decode code pc = .ok (.aload_n k, 1)) (hl : Ls[k.val]? = some (.val v)) (hv : v.isRef = true) (r : WP l Z EL it n0 own h0 ws0 Q K h ws cells slots (mkF K.m (pc + 1) Ls (v :: st))) : WP l Z EL it n0 own h0 ws0 Q K h ws cells slots (mkF K.m pc Ls st) :=
  WP.step (fun _ _ _ P _ k => XS.aloadN P.1.here C.exec rfl (hb C.bytes hd) hl hv k) r
theorem Ok.aload (C : Ok l Z a0 EL it n0 own h0 ws0 Q code maxL ret nm rm K) {k : Nat} {v : Value} (hd : decode code pc = .ok (.aload k, 2)) (hl : Ls[k]? = some (.val v)) (hv : v.isRef = true) (r : WP l Z EL it n0 own h0 ws0 Q K h ws cells slots (mkF K.m (pc + 2) Ls (v :: st))) : WP l Z EL it n0 own h0 ws0 Q K h ws cells slots (mkF K.m pc Ls st) :=
  WP.step (fun _ _ _ P _ k => XS.aload P.1.here C.exec rfl (hb C.bytes hd) hl hv k) r
theorem Ok.iloadN (C : Ok l Z a0 EL it n0 own h0 ws0 Q code maxL ret nm rm K) {k : Fin 4} {v : Int32} (hd : decode code pc = .ok (.iload_n k, 1)) (hl : Ls[k.val]? = some (.val (.int v))) (r : WP l Z EL it n0 own h0 ws0 Q K h ws cells slots (mkF K.m (pc + 1) Ls (.int v :: st))) : WP l Z EL it n0 own h0 ws0 Q K h ws cells slots (mkF K.m pc Ls st) :=
  WP.step (fun _ _ _ P _ k => XS.iloadN P.1.here C.exec rfl (hb C.bytes hd) hl k) r
theorem Ok.iload (C : Ok l Z a0 EL it n0 own h0 ws0 Q code maxL ret nm rm K) {k : Nat} {v : Int32} (hd : decode code pc = .ok (.iload k, 2)) (hl : Ls[k]? = some (.val (.int v))) (r : WP l Z EL it n0 own h0 ws0 Q K h ws cells slots (mkF K.m (pc + 2) Ls (.int v :: st))) : WP l Z EL it n0 own h0 ws0 Q K h ws cells slots (mkF K.m pc Ls st) :=
  WP.step (fun _ _ _ P _ k => XS.iload P.1.here C.exec rfl (hb C.bytes hd) hl k) r
theorem Ok.lloadN (C : Ok l Z a0 EL it n0 own h0 ws0 Q code maxL ret nm rm K) {k : Fin 4} {v : Int64} (hd : decode code pc = .ok (.lload_n k, 1)) (hl : Ls[k.val]? = some (.val (.long v))) (r : WP l Z EL it n0 own h0 ws0 Q K h ws cells slots (mkF K.m (pc + 1) Ls (.long v :: st))) : WP l Z EL it n0 own h0 ws0 Q K h ws cells slots (mkF K.m pc Ls st) :=
  WP.step (fun _ _ _ P _ k => XS.lloadN P.1.here C.exec rfl (hb C.bytes hd) hl k) r
theorem Ok.lload (C : Ok l Z a0 EL it n0 own h0 ws0 Q code maxL ret nm rm K) {k : Nat} {v : Int64} (hd : decode code pc = .ok (.lload k, 2)) (hl : Ls[k]? = some (.val (.long v))) (r : WP l Z EL it n0 own h0 ws0 Q K h ws cells slots (mkF K.m (pc + 2) Ls (.long v :: st))) : WP l Z EL it n0 own h0 ws0 Q K h ws cells slots (mkF K.m pc Ls st) :=
  WP.step (fun _ _ _ P _ k => XS.lload P.1.here C.exec rfl (hb C.bytes hd) hl k) r
theorem Ok.iconst (C : Ok l Z a0 EL it n0 own h0 ws0 Q code maxL ret nm rm K) {i : Int} {v : Int32} (hd : decode code pc = .ok (.iconst i, 1)) (hv : Int32.ofInt i = v) (r : WP l Z EL it n0 own h0 ws0 Q K h ws cells slots (mkF K.m (pc + 1) Ls (.int v :: st))) : WP l Z EL it n0 own h0 ws0 Q K h ws cells slots (mkF K.m pc Ls st) := by
  subst hv; exact WP.step (fun _ _ _ P _ k => XS.iconst P.1.here C.exec rfl (hb C.bytes hd) k) r
theorem Ok.bipush (C : Ok l Z a0 EL it n0 own h0 ws0 Q code maxL ret nm rm K) {i : Int} {v : Int32} (hd : decode code pc = .ok (.bipush i, 2)) (hv : (Int8.ofInt i).toInt32 = v) (r : WP l Z EL it n0 own h0 ws0 Q K h ws cells slots (mkF K.m (pc + 2) Ls (.int v :: st))) : WP l Z EL it n0 own h0 ws0 Q K h ws cells slots (mkF K.m pc Ls st) := by
  subst hv; exact WP.step (fun _ _ _ P _ k => XS.bipush P.1.here C.exec rfl (hb C.bytes hd) k) r
theorem Ok.sipush (C : Ok l Z a0 EL it n0 own h0 ws0 Q code maxL ret nm rm K) {i : Int} {v : Int32} (hd : decode code pc = .ok (.sipush i, 3)) (hv : (Int16.ofInt i).toInt32 = v) (r : WP l Z EL it n0 own h0 ws0 Q K h ws cells slots (mkF K.m (pc + 3) Ls (.int v :: st))) : WP l Z EL it n0 own h0 ws0 Q K h ws cells slots (mkF K.m pc Ls st) := by
  subst hv; exact WP.step (fun _ _ _ P _ k => XS.sipush P.1.here C.exec rfl (hb C.bytes hd) k) r
theorem Ok.lconst (C : Ok l Z a0 EL it n0 own h0 ws0 Q code maxL ret nm rm K) {i : Fin 2} (hd : decode code pc = .ok (.lconst i, 1)) {v : Int64} (hv : Int64.ofNat i.val = v) (r : WP l Z EL it n0 own h0 ws0 Q K h ws cells slots (mkF K.m (pc + 1) Ls (.long v :: st))) : WP l Z EL it n0 own h0 ws0 Q K h ws cells slots (mkF K.m pc Ls st) := by
  subst hv; exact WP.step (fun _ _ _ P _ k => XS.lconst P.1.here C.exec rfl (hb C.bytes hd) k) r
theorem Ok.aconstNull (C : Ok l Z a0 EL it n0 own h0 ws0 Q code maxL ret nm rm K) (hd : decode code pc = .ok (.aconst_null, 1)) (r : WP l Z EL it n0 own h0 ws0 Q K h ws cells slots (mkF K.m (pc + 1) Ls (.null :: st))) : WP l Z EL it n0 own h0 ws0 Q K h ws cells slots (mkF K.m pc Ls st) :=
  WP.step (fun _ _ _ P _ k => XS.aconstNull P.1.here C.exec rfl (hb C.bytes hd) k) r
theorem Ok.ldcInt (C : Ok l Z a0 EL it n0 own h0 ws0 Q code maxL ret nm rm K) {index : Nat} {v : Int32} (w : (Jvm.Cond.constant own index v).before a0 Z = true) (hd : decode code pc = .ok (.ldc index, 2)) (r : WP l Z EL it n0 own h0 ws0 Q K h ws cells slots (mkF K.m (pc + 2) Ls (.int v :: st))) : WP l Z EL it n0 own h0 ws0 Q K h ws cells slots (mkF K.m pc Ls st) :=
  WP.step (fun _ _ _ P t k => P.1.ldcInt C.exec P.2.2.2.2.1 (mv P.2.2.2.1 w) (g := mkF K.m pc Ls st) rfl (hb C.bytes hd) t k) r
theorem Ok.ldcwInt (C : Ok l Z a0 EL it n0 own h0 ws0 Q code maxL ret nm rm K) {index : Nat} {v : Int32} (w : (Jvm.Cond.constant own index v).before a0 Z = true) (hd : decode code pc = .ok (.ldc_w index, 3)) (r : WP l Z EL it n0 own h0 ws0 Q K h ws cells slots (mkF K.m (pc + 3) Ls (.int v :: st))) : WP l Z EL it n0 own h0 ws0 Q K h ws cells slots (mkF K.m pc Ls st) :=
  WP.step (fun _ _ _ P t k => P.1.ldcwInt C.exec P.2.2.2.2.1 (mv P.2.2.2.1 w) (g := mkF K.m pc Ls st) rfl (hb C.bytes hd) t k) r
theorem Ok.ldc2Long (C : Ok l Z a0 EL it n0 own h0 ws0 Q code maxL ret nm rm K) {index : Nat} {v : Int64} (w : (Jvm.Cond.constantLong own index v).before a0 Z = true) (hd : decode code pc = .ok (.ldc2_w index, 3)) (r : WP l Z EL it n0 own h0 ws0 Q K h ws cells slots (mkF K.m (pc + 3) Ls (.long v :: st))) : WP l Z EL it n0 own h0 ws0 Q K h ws cells slots (mkF K.m pc Ls st) :=
  WP.step (fun _ _ _ P t k => P.1.ldc2Long C.exec P.2.2.2.2.1 (mv P.2.2.2.1 w) (g := mkF K.m pc Ls st) rfl (hb C.bytes hd) t k) r
theorem Ok.iadd (C : Ok l Z a0 EL it n0 own h0 ws0 Q code maxL ret nm rm K) {x y : Int32} (hd : decode code pc = .ok (.iadd, 1)) (r : WP l Z EL it n0 own h0 ws0 Q K h ws cells slots (mkF K.m (pc + 1) Ls (.int (x + y) :: st))) : WP l Z EL it n0 own h0 ws0 Q K h ws cells slots (mkF K.m pc Ls (.int y :: .int x :: st)) :=
  WP.step (fun _ _ _ P _ k => XS.iadd P.1.here C.exec rfl (hb C.bytes hd) rfl k) r
theorem Ok.isub (C : Ok l Z a0 EL it n0 own h0 ws0 Q code maxL ret nm rm K) {x y : Int32} (hd : decode code pc = .ok (.isub, 1)) (r : WP l Z EL it n0 own h0 ws0 Q K h ws cells slots (mkF K.m (pc + 1) Ls (.int (x - y) :: st))) : WP l Z EL it n0 own h0 ws0 Q K h ws cells slots (mkF K.m pc Ls (.int y :: .int x :: st)) :=
  WP.step (fun _ _ _ P _ k => XS.isub P.1.here C.exec rfl (hb C.bytes hd) rfl k) r
theorem Ok.imul (C : Ok l Z a0 EL it n0 own h0 ws0 Q code maxL ret nm rm K) {x y : Int32} (hd : decode code pc = .ok (.imul, 1)) (r : WP l Z EL it n0 own h0 ws0 Q K h ws cells slots (mkF K.m (pc + 1) Ls (.int (x * y) :: st))) : WP l Z EL it n0 own h0 ws0 Q K h ws cells slots (mkF K.m pc Ls (.int y :: .int x :: st)) :=
  WP.step (fun _ _ _ P _ k => XS.imul P.1.here C.exec rfl (hb C.bytes hd) rfl k) r
theorem Ok.iand (C : Ok l Z a0 EL it n0 own h0 ws0 Q code maxL ret nm rm K) {x y : Int32} (hd : decode code pc = .ok (.iand, 1)) (r : WP l Z EL it n0 own h0 ws0 Q K h ws cells slots (mkF K.m (pc + 1) Ls (.int (x &&& y) :: st))) : WP l Z EL it n0 own h0 ws0 Q K h ws cells slots (mkF K.m pc Ls (.int y :: .int x :: st)) :=
  WP.step (fun _ _ _ P _ k => XS.iand P.1.here C.exec rfl (hb C.bytes hd) rfl k) r
theorem Ok.ior (C : Ok l Z a0 EL it n0 own h0 ws0 Q code maxL ret nm rm K) {x y : Int32} (hd : decode code pc = .ok (.ior, 1)) (r : WP l Z EL it n0 own h0 ws0 Q K h ws cells slots (mkF K.m (pc + 1) Ls (.int (x ||| y) :: st))) : WP l Z EL it n0 own h0 ws0 Q K h ws cells slots (mkF K.m pc Ls (.int y :: .int x :: st)) :=
  WP.step (fun _ _ _ P _ k => XS.ior P.1.here C.exec rfl (hb C.bytes hd) rfl k) r
theorem Ok.ixor (C : Ok l Z a0 EL it n0 own h0 ws0 Q code maxL ret nm rm K) {x y : Int32} (hd : decode code pc = .ok (.ixor, 1)) (r : WP l Z EL it n0 own h0 ws0 Q K h ws cells slots (mkF K.m (pc + 1) Ls (.int (x ^^^ y) :: st))) : WP l Z EL it n0 own h0 ws0 Q K h ws cells slots (mkF K.m pc Ls (.int y :: .int x :: st)) :=
  WP.step (fun _ _ _ P _ k => XS.ixor P.1.here C.exec rfl (hb C.bytes hd) rfl k) r
theorem Ok.ladd (C : Ok l Z a0 EL it n0 own h0 ws0 Q code maxL ret nm rm K) {x y : Int64} (hd : decode code pc = .ok (.ladd, 1)) (r : WP l Z EL it n0 own h0 ws0 Q K h ws cells slots (mkF K.m (pc + 1) Ls (.long (x + y) :: st))) : WP l Z EL it n0 own h0 ws0 Q K h ws cells slots (mkF K.m pc Ls (.long y :: .long x :: st)) :=
  WP.step (fun _ _ _ P _ k => XS.ladd P.1.here C.exec rfl (hb C.bytes hd) rfl k) r
theorem Ok.lsub (C : Ok l Z a0 EL it n0 own h0 ws0 Q code maxL ret nm rm K) {x y : Int64} (hd : decode code pc = .ok (.lsub, 1)) (r : WP l Z EL it n0 own h0 ws0 Q K h ws cells slots (mkF K.m (pc + 1) Ls (.long (x - y) :: st))) : WP l Z EL it n0 own h0 ws0 Q K h ws cells slots (mkF K.m pc Ls (.long y :: .long x :: st)) :=
  WP.step (fun _ _ _ P _ k => XS.lsub P.1.here C.exec rfl (hb C.bytes hd) rfl k) r
theorem Ok.land (C : Ok l Z a0 EL it n0 own h0 ws0 Q code maxL ret nm rm K) {x y : Int64} (hd : decode code pc = .ok (.land, 1)) (r : WP l Z EL it n0 own h0 ws0 Q K h ws cells slots (mkF K.m (pc + 1) Ls (.long (x &&& y) :: st))) : WP l Z EL it n0 own h0 ws0 Q K h ws cells slots (mkF K.m pc Ls (.long y :: .long x :: st)) :=
  WP.step (fun _ _ _ P _ k => XS.land P.1.here C.exec rfl (hb C.bytes hd) rfl k) r
theorem Ok.lmul (C : Ok l Z a0 EL it n0 own h0 ws0 Q code maxL ret nm rm K) {x y : Int64} (hd : decode code pc = .ok (.lmul, 1)) (r : WP l Z EL it n0 own h0 ws0 Q K h ws cells slots (mkF K.m (pc + 1) Ls (.long (x * y) :: st))) : WP l Z EL it n0 own h0 ws0 Q K h ws cells slots (mkF K.m pc Ls (.long y :: .long x :: st)) :=
  WP.step (fun _ _ _ P _ k => XS.lmul P.1.here C.exec rfl (hb C.bytes hd) rfl k) r
theorem Ok.i2c (C : Ok l Z a0 EL it n0 own h0 ws0 Q code maxL ret nm rm K) {x : Int32} (hd : decode code pc = .ok (.i2c, 1)) (r : WP l Z EL it n0 own h0 ws0 Q K h ws cells slots (mkF K.m (pc + 1) Ls (.int (x.toUInt32.toUInt16.toUInt32.toInt32) :: st))) : WP l Z EL it n0 own h0 ws0 Q K h ws cells slots (mkF K.m pc Ls (.int x :: st)) :=
  WP.step (fun _ _ _ P _ k => XS.i2c P.1.here C.exec rfl (hb C.bytes hd) rfl k) r
theorem Ok.i2b (C : Ok l Z a0 EL it n0 own h0 ws0 Q code maxL ret nm rm K) {x : Int32} (hd : decode code pc = .ok (.i2b, 1)) (r : WP l Z EL it n0 own h0 ws0 Q K h ws cells slots (mkF K.m (pc + 1) Ls (.int (x.toInt8.toInt32) :: st))) : WP l Z EL it n0 own h0 ws0 Q K h ws cells slots (mkF K.m pc Ls (.int x :: st)) :=
  WP.step (fun _ _ _ P _ k => XS.i2b P.1.here C.exec rfl (hb C.bytes hd) rfl k) r
theorem Ok.i2l (C : Ok l Z a0 EL it n0 own h0 ws0 Q code maxL ret nm rm K) {x : Int32} (hd : decode code pc = .ok (.i2l, 1)) (r : WP l Z EL it n0 own h0 ws0 Q K h ws cells slots (mkF K.m (pc + 1) Ls (.long (x.toInt64) :: st))) : WP l Z EL it n0 own h0 ws0 Q K h ws cells slots (mkF K.m pc Ls (.int x :: st)) :=
  WP.step (fun _ _ _ P _ k => XS.i2l P.1.here C.exec rfl (hb C.bytes hd) rfl k) r
theorem Ok.l2i (C : Ok l Z a0 EL it n0 own h0 ws0 Q code maxL ret nm rm K) {x : Int64} (hd : decode code pc = .ok (.l2i, 1)) (r : WP l Z EL it n0 own h0 ws0 Q K h ws cells slots (mkF K.m (pc + 1) Ls (.int (x.toInt32) :: st))) : WP l Z EL it n0 own h0 ws0 Q K h ws cells slots (mkF K.m pc Ls (.long x :: st)) :=
  WP.step (fun _ _ _ P _ k => XS.l2i P.1.here C.exec rfl (hb C.bytes hd) rfl k) r
theorem Ok.ineg (C : Ok l Z a0 EL it n0 own h0 ws0 Q code maxL ret nm rm K) {x : Int32} (hd : decode code pc = .ok (.ineg, 1)) (r : WP l Z EL it n0 own h0 ws0 Q K h ws cells slots (mkF K.m (pc + 1) Ls (.int (-x) :: st))) : WP l Z EL it n0 own h0 ws0 Q K h ws cells slots (mkF K.m pc Ls (.int x :: st)) :=
  WP.step (fun _ _ _ P _ k => XS.ineg P.1.here C.exec rfl (hb C.bytes hd) rfl k) r
theorem Ok.ishl (C : Ok l Z a0 EL it n0 own h0 ws0 Q code maxL ret nm rm K) {x y : Int32} (hd : decode code pc = .ok (.ishl, 1)) (r : WP l Z EL it n0 own h0 ws0 Q K h ws cells slots (mkF K.m (pc + 1) Ls (.int (x <<< (y &&& 31)) :: st))) : WP l Z EL it n0 own h0 ws0 Q K h ws cells slots (mkF K.m pc Ls (.int y :: .int x :: st)) :=
  WP.step (fun _ _ _ P _ k => XS.ishl P.1.here C.exec rfl (hb C.bytes hd) rfl k) r
theorem Ok.ishr (C : Ok l Z a0 EL it n0 own h0 ws0 Q code maxL ret nm rm K) {x y : Int32} (hd : decode code pc = .ok (.ishr, 1)) (r : WP l Z EL it n0 own h0 ws0 Q K h ws cells slots (mkF K.m (pc + 1) Ls (.int (x >>> (y &&& 31)) :: st))) : WP l Z EL it n0 own h0 ws0 Q K h ws cells slots (mkF K.m pc Ls (.int y :: .int x :: st)) :=
  WP.step (fun _ _ _ P _ k => XS.ishr P.1.here C.exec rfl (hb C.bytes hd) rfl k) r
theorem Ok.iushr (C : Ok l Z a0 EL it n0 own h0 ws0 Q code maxL ret nm rm K) {x y : Int32} (hd : decode code pc = .ok (.iushr, 1)) (r : WP l Z EL it n0 own h0 ws0 Q K h ws cells slots (mkF K.m (pc + 1) Ls (.int (x.toUInt32 >>> (y &&& 31).toUInt32).toInt32 :: st))) : WP l Z EL it n0 own h0 ws0 Q K h ws cells slots (mkF K.m pc Ls (.int y :: .int x :: st)) :=
  WP.step (fun _ _ _ P _ k => XS.iushr P.1.here C.exec rfl (hb C.bytes hd) rfl k) r
theorem Ok.lushr (C : Ok l Z a0 EL it n0 own h0 ws0 Q code maxL ret nm rm K) {x : Int64} {y : Int32} (hd : decode code pc = .ok (.lushr, 1)) (r : WP l Z EL it n0 own h0 ws0 Q K h ws cells slots (mkF K.m (pc + 1) Ls (.long (x.toUInt64 >>> (y &&& 0x3f).toInt64.toUInt64).toInt64 :: st))) : WP l Z EL it n0 own h0 ws0 Q K h ws cells slots (mkF K.m pc Ls (.int y :: .long x :: st)) :=
  WP.step (fun _ _ _ P _ k => XS.lushr P.1.here C.exec rfl (hb C.bytes hd) rfl k) r
theorem Ok.idiv (C : Ok l Z a0 EL it n0 own h0 ws0 Q code maxL ret nm rm K) {x y : Int32} (hy : y ≠ 0) (hd : decode code pc = .ok (.idiv, 1)) (r : WP l Z EL it n0 own h0 ws0 Q K h ws cells slots (mkF K.m (pc + 1) Ls (.int (x / y) :: st))) : WP l Z EL it n0 own h0 ws0 Q K h ws cells slots (mkF K.m pc Ls (.int y :: .int x :: st)) :=
  WP.step (fun _ _ _ P _ k => XS.idiv P.1.here C.exec rfl (hb C.bytes hd) rfl hy k) r
theorem Ok.irem (C : Ok l Z a0 EL it n0 own h0 ws0 Q code maxL ret nm rm K) {x y : Int32} (hy : y ≠ 0) (hd : decode code pc = .ok (.irem, 1)) (r : WP l Z EL it n0 own h0 ws0 Q K h ws cells slots (mkF K.m (pc + 1) Ls (.int (x % y) :: st))) : WP l Z EL it n0 own h0 ws0 Q K h ws cells slots (mkF K.m pc Ls (.int y :: .int x :: st)) :=
  WP.step (fun _ _ _ P _ k => iremM P.1 C.exec (g := mkF K.m pc Ls (.int y :: .int x :: st)) rfl (hb C.bytes hd) rfl hy k) r
theorem Ok.ldiv (C : Ok l Z a0 EL it n0 own h0 ws0 Q code maxL ret nm rm K) {x y : Int64} (hy : y ≠ 0) (hd : decode code pc = .ok (.ldiv, 1)) (r : WP l Z EL it n0 own h0 ws0 Q K h ws cells slots (mkF K.m (pc + 1) Ls (.long (x / y) :: st))) : WP l Z EL it n0 own h0 ws0 Q K h ws cells slots (mkF K.m pc Ls (.long y :: .long x :: st)) :=
  WP.step (fun _ _ _ P _ k => XS.ldiv P.1.here C.exec rfl (hb C.bytes hd) rfl hy k) r
theorem Ok.lrem (C : Ok l Z a0 EL it n0 own h0 ws0 Q code maxL ret nm rm K) {x y : Int64} (hy : y ≠ 0) (hd : decode code pc = .ok (.lrem, 1)) (r : WP l Z EL it n0 own h0 ws0 Q K h ws cells slots (mkF K.m (pc + 1) Ls (.long (x % y) :: st))) : WP l Z EL it n0 own h0 ws0 Q K h ws cells slots (mkF K.m pc Ls (.long y :: .long x :: st)) :=
  WP.step (fun _ _ _ P _ k => XS.lrem P.1.here C.exec rfl (hb C.bytes hd) rfl hy (by rw [lrem_mod]; exact k)) r
theorem Ok.lcmp (C : Ok l Z a0 EL it n0 own h0 ws0 Q code maxL ret nm rm K) {x y : Int64} (hd : decode code pc = .ok (.lcmp, 1)) (r : WP l Z EL it n0 own h0 ws0 Q K h ws cells slots (mkF K.m (pc + 1) Ls (.int (lcmpW x y) :: st))) : WP l Z EL it n0 own h0 ws0 Q K h ws cells slots (mkF K.m pc Ls (.long y :: .long x :: st)) :=
  WP.step (fun _ _ _ P _ k => XS.lcmp P.1.here C.exec rfl (hb C.bytes hd) rfl k) r
theorem Ok.dup (C : Ok l Z a0 EL it n0 own h0 ws0 Q code maxL ret nm rm K) {x : Value} (hc : x.category = 1) (hd : decode code pc = .ok (.dup, 1)) (r : WP l Z EL it n0 own h0 ws0 Q K h ws cells slots (mkF K.m (pc + 1) Ls (x :: x :: st))) : WP l Z EL it n0 own h0 ws0 Q K h ws cells slots (mkF K.m pc Ls (x :: st)) :=
  WP.step (fun _ _ _ P _ k => XS.dup P.1.here C.exec rfl (hb C.bytes hd) rfl hc k) r
theorem Ok.pop (C : Ok l Z a0 EL it n0 own h0 ws0 Q code maxL ret nm rm K) {x : Value} (hc : x.category = 1) (hd : decode code pc = .ok (.pop, 1)) (r : WP l Z EL it n0 own h0 ws0 Q K h ws cells slots (mkF K.m (pc + 1) Ls st)) : WP l Z EL it n0 own h0 ws0 Q K h ws cells slots (mkF K.m pc Ls (x :: st)) :=
  WP.step (fun _ _ _ P _ k => XS.pop P.1.here C.exec rfl (hb C.bytes hd) rfl hc k) r
theorem Ok.istoreN (C : Ok l Z a0 EL it n0 own h0 ws0 Q code maxL ret nm rm K) {k : Fin 4} {x : Int32} (L' : Array Slot) (hd : decode code pc = .ok (.istore_n k, 1)) (hl : storeLocals Ls k.val (.int x) = some L') (r : WP l Z EL it n0 own h0 ws0 Q K h ws cells slots (mkF K.m (pc + 1) L' st)) : WP l Z EL it n0 own h0 ws0 Q K h ws cells slots (mkF K.m pc Ls (.int x :: st)) :=
  WP.step (fun _ _ _ P _ k => XS.istoreN P.1.here C.exec rfl (hb C.bytes hd) rfl hl k) r
theorem Ok.istore (C : Ok l Z a0 EL it n0 own h0 ws0 Q code maxL ret nm rm K) {k : Nat} {x : Int32} (L' : Array Slot) (hd : decode code pc = .ok (.istore k, 2)) (hl : storeLocals Ls k (.int x) = some L') (r : WP l Z EL it n0 own h0 ws0 Q K h ws cells slots (mkF K.m (pc + 2) L' st)) : WP l Z EL it n0 own h0 ws0 Q K h ws cells slots (mkF K.m pc Ls (.int x :: st)) :=
  WP.step (fun _ _ _ P _ k => XS.istore P.1.here C.exec rfl (hb C.bytes hd) rfl hl k) r
theorem Ok.astoreN (C : Ok l Z a0 EL it n0 own h0 ws0 Q code maxL ret nm rm K) {k : Fin 4} {x : Value} (L' : Array Slot) (hd : decode code pc = .ok (.astore_n k, 1)) (hv : x.isRef = true) (hl : storeLocals Ls k.val x = some L') (r : WP l Z EL it n0 own h0 ws0 Q K h ws cells slots (mkF K.m (pc + 1) L' st)) : WP l Z EL it n0 own h0 ws0 Q K h ws cells slots (mkF K.m pc Ls (x :: st)) :=
  WP.step (fun _ _ _ P _ k => XS.astoreN P.1.here C.exec rfl (hb C.bytes hd) rfl hv hl k) r
theorem Ok.astore (C : Ok l Z a0 EL it n0 own h0 ws0 Q code maxL ret nm rm K) {k : Nat} {x : Value} (L' : Array Slot) (hd : decode code pc = .ok (.astore k, 2)) (hv : x.isRef = true) (hl : storeLocals Ls k x = some L') (r : WP l Z EL it n0 own h0 ws0 Q K h ws cells slots (mkF K.m (pc + 2) L' st)) : WP l Z EL it n0 own h0 ws0 Q K h ws cells slots (mkF K.m pc Ls (x :: st)) :=
  WP.step (fun _ _ _ P _ k => XS.astore P.1.here C.exec rfl (hb C.bytes hd) rfl hv hl k) r
theorem Ok.lstoreN (C : Ok l Z a0 EL it n0 own h0 ws0 Q code maxL ret nm rm K) {k : Fin 4} {x : Int64} (L' : Array Slot) (hd : decode code pc = .ok (.lstore_n k, 1)) (hl : storeLocals Ls k.val (.long x) = some L') (r : WP l Z EL it n0 own h0 ws0 Q K h ws cells slots (mkF K.m (pc + 1) L' st)) : WP l Z EL it n0 own h0 ws0 Q K h ws cells slots (mkF K.m pc Ls (.long x :: st)) :=
  WP.step (fun _ _ _ P _ k => XS.lstoreN P.1.here C.exec rfl (hb C.bytes hd) rfl hl k) r
theorem Ok.lstore (C : Ok l Z a0 EL it n0 own h0 ws0 Q code maxL ret nm rm K) {k : Nat} {x : Int64} (L' : Array Slot) (hd : decode code pc = .ok (.lstore k, 2)) (hl : storeLocals Ls k (.long x) = some L') (r : WP l Z EL it n0 own h0 ws0 Q K h ws cells slots (mkF K.m (pc + 2) L' st)) : WP l Z EL it n0 own h0 ws0 Q K h ws cells slots (mkF K.m pc Ls (.long x :: st)) :=
  WP.step (fun _ _ _ P _ k => XS.lstore P.1.here C.exec rfl (hb C.bytes hd) rfl hl k) r
theorem Ok.iinc (C : Ok l Z a0 EL it n0 own h0 ws0 Q code maxL ret nm rm K) {k : Nat} {cst : Int} {x z : Int32} (L' : Array Slot) (hd : decode code pc = .ok (.iinc k cst, 3)) (hl : Ls[k]? = some (.val (.int x))) (hz : Int32.ofInt cst = z) (hl' : storeLocals Ls k (.int (x + z)) = some L') (r : WP l Z EL it n0 own h0 ws0 Q K h ws cells slots (mkF K.m (pc + 3) L' st)) : WP l Z EL it n0 own h0 ws0 Q K h ws cells slots (mkF K.m pc Ls st) := by
  subst hz; exact WP.step (fun _ _ _ P _ k => XS.iinc P.1.here C.exec rfl (hb C.bytes hd) hl hl' k) r
theorem Ok.goto (C : Ok l Z a0 EL it n0 own h0 ws0 Q code maxL ret nm rm K) {o : Int} (pc' : Nat) (hd : decode code pc = .ok (.goto o, 3)) (ho : 0 ≤ (pc : Int) + o) (hp : ((pc : Int) + o).toNat = pc') (r : WP l Z EL it n0 own h0 ws0 Q K h ws cells slots (mkF K.m pc' Ls st)) : WP l Z EL it n0 own h0 ws0 Q K h ws cells slots (mkF K.m pc Ls st) :=
  WP.step (fun _ _ _ P _ k => XS.goto P.1.here C.exec rfl rfl (hb C.bytes hd) ho hp k) r
/-! branches -/
theorem Ok.icmp (C : Ok l Z a0 EL it n0 own h0 ws0 Q code maxL ret nm rm K) {cd : ClassFile.Cond} {x y : Int32} {o : Int} (pc' : Nat) (hd : decode code pc = .ok (.if_icmp cd o, 3)) (ho : 0 ≤ (pc : Int) + o) (hp : ((pc : Int) + o).toNat = pc') (t : if_icmp.holds cd x y = true → WP l Z EL it n0 own h0 ws0 Q K h ws cells slots (mkF K.m pc' Ls st)) (f : if_icmp.holds cd x y = false → WP l Z EL it n0 own h0 ws0 Q K h ws cells slots (mkF K.m (pc + 3) Ls st)) : WP l Z EL it n0 own h0 ws0 Q K h ws cells slots (mkF K.m pc Ls (.int y :: .int x :: st)) := by
  cases q : if_icmp.holds cd x y
  · exact WP.step (fun _ _ _ P _ k => XS.icmpNo P.1.here C.exec rfl (hb C.bytes hd) rfl q k) (f q)
  · exact WP.step (fun _ _ _ P _ k => XS.icmpYes P.1.here C.exec rfl rfl (hb C.bytes hd) rfl q ho hp k) (t q)
theorem Ok.ifc (C : Ok l Z a0 EL it n0 own h0 ws0 Q code maxL ret nm rm K) {cd : ClassFile.Cond} {x : Int32} {o : Int} (pc' : Nat) (hd : decode code pc = .ok (.ifCond cd o, 3)) (ho : 0 ≤ (pc : Int) + o) (hp : ((pc : Int) + o).toNat = pc') (t : if_icmp.holds cd x 0 = true → WP l Z EL it n0 own h0 ws0 Q K h ws cells slots (mkF K.m pc' Ls st)) (f : if_icmp.holds cd x 0 = false → WP l Z EL it n0 own h0 ws0 Q K h ws cells slots (mkF K.m (pc + 3) Ls st)) : WP l Z EL it n0 own h0 ws0 Q K h ws cells slots (mkF K.m pc Ls (.int x :: st)) := by
  cases q : if_icmp.holds cd x 0
  · exact WP.step (fun _ _ _ P _ k => XS.ifNo P.1.here C.exec rfl (hb C.bytes hd) rfl (by rw [if0]; exact q) k) (f q)
  · exact WP.step (fun _ _ _ P _ k => XS.ifYes P.1.here C.exec rfl rfl (hb C.bytes hd) rfl (by rw [if0]; exact q) ho hp k) (t q)
theorem hEq (x y : Int32) : (if_icmp.holds .eq x y = true ↔ x.toInt = y.toInt) ∧ (if_icmp.holds .eq x y = false ↔ x.toInt ≠ y.toInt) := by simp [if_icmp.holds, Int32.toInt_inj]
theorem hNe (x y : Int32) : (if_icmp.holds .ne x y = true ↔ x.toInt ≠ y.toInt) ∧ (if_icmp.holds .ne x y = false ↔ x.toInt = y.toInt) := by simp [if_icmp.holds, Int32.toInt_inj]
theorem hLt (x y : Int32) : (if_icmp.holds .lt x y = true ↔ x.toInt < y.toInt) ∧ (if_icmp.holds .lt x y = false ↔ y.toInt ≤ x.toInt) := by simp [if_icmp.holds, Int32.lt_iff_toInt_lt, Int32.le_iff_toInt_le]
theorem hGe (x y : Int32) : (if_icmp.holds .ge x y = true ↔ y.toInt ≤ x.toInt) ∧ (if_icmp.holds .ge x y = false ↔ x.toInt < y.toInt) := by simp [if_icmp.holds, Int32.lt_iff_toInt_lt, Int32.le_iff_toInt_le]
theorem hGt (x y : Int32) : (if_icmp.holds .gt x y = true ↔ y.toInt < x.toInt) ∧ (if_icmp.holds .gt x y = false ↔ x.toInt ≤ y.toInt) := by simp [if_icmp.holds, Int32.lt_iff_toInt_lt, Int32.le_iff_toInt_le]
theorem hLe (x y : Int32) : (if_icmp.holds .le x y = true ↔ x.toInt ≤ y.toInt) ∧ (if_icmp.holds .le x y = false ↔ y.toInt < x.toInt) := by simp [if_icmp.holds, Int32.lt_iff_toInt_lt, Int32.le_iff_toInt_le]
theorem Ok.icmp_eq (C : Ok l Z a0 EL it n0 own h0 ws0 Q code maxL ret nm rm K) {x y : Int32} {o : Int} (pc' : Nat) (hd : decode code pc = .ok (.if_icmp .eq o, 3)) (ho : 0 ≤ (pc : Int) + o) (hp : ((pc : Int) + o).toNat = pc') (t : x.toInt = y.toInt → WP l Z EL it n0 own h0 ws0 Q K h ws cells slots (mkF K.m pc' Ls st)) (f : x.toInt ≠ y.toInt → WP l Z EL it n0 own h0 ws0 Q K h ws cells slots (mkF K.m (pc + 3) Ls st)) : WP l Z EL it n0 own h0 ws0 Q K h ws cells slots (mkF K.m pc Ls (.int y :: .int x :: st)) :=
  C.icmp pc' hd ho hp (fun q => t ((hEq x y).1.mp q)) (fun q => f ((hEq x y).2.mp q))
theorem Ok.ifc_eq (C : Ok l Z a0 EL it n0 own h0 ws0 Q code maxL ret nm rm K) {x : Int32} {o : Int} (pc' : Nat) (hd : decode code pc = .ok (.ifCond .eq o, 3)) (ho : 0 ≤ (pc : Int) + o) (hp : ((pc : Int) + o).toNat = pc') (t : x.toInt = 0 → WP l Z EL it n0 own h0 ws0 Q K h ws cells slots (mkF K.m pc' Ls st)) (f : x.toInt ≠ 0 → WP l Z EL it n0 own h0 ws0 Q K h ws cells slots (mkF K.m (pc + 3) Ls st)) : WP l Z EL it n0 own h0 ws0 Q K h ws cells slots (mkF K.m pc Ls (.int x :: st)) :=
  C.ifc pc' hd ho hp (fun q => t ((hEq x 0).1.mp q)) (fun q => f ((hEq x 0).2.mp q))
theorem Ok.icmp_ne (C : Ok l Z a0 EL it n0 own h0 ws0 Q code maxL ret nm rm K) {x y : Int32} {o : Int} (pc' : Nat) (hd : decode code pc = .ok (.if_icmp .ne o, 3)) (ho : 0 ≤ (pc : Int) + o) (hp : ((pc : Int) + o).toNat = pc') (t : x.toInt ≠ y.toInt → WP l Z EL it n0 own h0 ws0 Q K h ws cells slots (mkF K.m pc' Ls st)) (f : x.toInt = y.toInt → WP l Z EL it n0 own h0 ws0 Q K h ws cells slots (mkF K.m (pc + 3) Ls st)) : WP l Z EL it n0 own h0 ws0 Q K h ws cells slots (mkF K.m pc Ls (.int y :: .int x :: st)) :=
  C.icmp pc' hd ho hp (fun q => t ((hNe x y).1.mp q)) (fun q => f ((hNe x y).2.mp q))
theorem Ok.ifc_ne (C : Ok l Z a0 EL it n0 own h0 ws0 Q code maxL ret nm rm K) {x : Int32} {o : Int} (pc' : Nat) (hd : decode code pc = .ok (.ifCond .ne o, 3)) (ho : 0 ≤ (pc : Int) + o) (hp : ((pc : Int) + o).toNat = pc') (t : x.toInt ≠ 0 → WP l Z EL it n0 own h0 ws0 Q K h ws cells slots (mkF K.m pc' Ls st)) (f : x.toInt = 0 → WP l Z EL it n0 own h0 ws0 Q K h ws cells slots (mkF K.m (pc + 3) Ls st)) : WP l Z EL it n0 own h0 ws0 Q K h ws cells slots (mkF K.m pc Ls (.int x :: st)) :=
  C.ifc pc' hd ho hp (fun q => t ((hNe x 0).1.mp q)) (fun q => f ((hNe x 0).2.mp q))
theorem Ok.icmp_lt (C : Ok l Z a0 EL it n0 own h0 ws0 Q code maxL ret nm rm K) {x y : Int32} {o : Int} (pc' : Nat) (hd : decode code pc = .ok (.if_icmp .lt o, 3)) (ho : 0 ≤ (pc : Int) + o) (hp : ((pc : Int) + o).toNat = pc') (t : x.toInt < y.toInt → WP l Z EL it n0 own h0 ws0 Q K h ws cells slots (mkF K.m pc' Ls st)) (f : y.toInt ≤ x.toInt → WP l Z EL it n0 own h0 ws0 Q K h ws cells slots (mkF K.m (pc + 3) Ls st)) : WP l Z EL it n0 own h0 ws0 Q K h ws cells slots (mkF K.m pc Ls (.int y :: .int x :: st)) :=
  C.icmp pc' hd ho hp (fun q => t ((hLt x y).1.mp q)) (fun q => f ((hLt x y).2.mp q))
theorem Ok.ifc_lt (C : Ok l Z a0 EL it n0 own h0 ws0 Q code maxL ret nm rm K) {x : Int32} {o : Int} (pc' : Nat) (hd : decode code pc = .ok (.ifCond .lt o, 3)) (ho : 0 ≤ (pc : Int) + o) (hp : ((pc : Int) + o).toNat = pc') (t : x.toInt < 0 → WP l Z EL it n0 own h0 ws0 Q K h ws cells slots (mkF K.m pc' Ls st)) (f : 0 ≤ x.toInt → WP l Z EL it n0 own h0 ws0 Q K h ws cells slots (mkF K.m (pc + 3) Ls st)) : WP l Z EL it n0 own h0 ws0 Q K h ws cells slots (mkF K.m pc Ls (.int x :: st)) :=
  C.ifc pc' hd ho hp (fun q => t ((hLt x 0).1.mp q)) (fun q => f ((hLt x 0).2.mp q))
theorem Ok.icmp_ge (C : Ok l Z a0 EL it n0 own h0 ws0 Q code maxL ret nm rm K) {x y : Int32} {o : Int} (pc' : Nat) (hd : decode code pc = .ok (.if_icmp .ge o, 3)) (ho : 0 ≤ (pc : Int) + o) (hp : ((pc : Int) + o).toNat = pc') (t : y.toInt ≤ x.toInt → WP l Z EL it n0 own h0 ws0 Q K h ws cells slots (mkF K.m pc' Ls st)) (f : x.toInt < y.toInt → WP l Z EL it n0 own h0 ws0 Q K h ws cells slots (mkF K.m (pc + 3) Ls st)) : WP l Z EL it n0 own h0 ws0 Q K h ws cells slots (mkF K.m pc Ls (.int y :: .int x :: st)) :=
  C.icmp pc' hd ho hp (fun q => t ((hGe x y).1.mp q)) (fun q => f ((hGe x y).2.mp q))
theorem Ok.ifc_ge (C : Ok l Z a0 EL it n0 own h0 ws0 Q code maxL ret nm rm K) {x : Int32} {o : Int} (pc' : Nat) (hd : decode code pc = .ok (.ifCond .ge o, 3)) (ho : 0 ≤ (pc : Int) + o) (hp : ((pc : Int) + o).toNat = pc') (t : 0 ≤ x.toInt → WP l Z EL it n0 own h0 ws0 Q K h ws cells slots (mkF K.m pc' Ls st)) (f : x.toInt < 0 → WP l Z EL it n0 own h0 ws0 Q K h ws cells slots (mkF K.m (pc + 3) Ls st)) : WP l Z EL it n0 own h0 ws0 Q K h ws cells slots (mkF K.m pc Ls (.int x :: st)) :=
  C.ifc pc' hd ho hp (fun q => t ((hGe x 0).1.mp q)) (fun q => f ((hGe x 0).2.mp q))
theorem Ok.icmp_gt (C : Ok l Z a0 EL it n0 own h0 ws0 Q code maxL ret nm rm K) {x y : Int32} {o : Int} (pc' : Nat) (hd : decode code pc = .ok (.if_icmp .gt o, 3)) (ho : 0 ≤ (pc : Int) + o) (hp : ((pc : Int) + o).toNat = pc') (t : y.toInt < x.toInt → WP l Z EL it n0 own h0 ws0 Q K h ws cells slots (mkF K.m pc' Ls st)) (f : x.toInt ≤ y.toInt → WP l Z EL it n0 own h0 ws0 Q K h ws cells slots (mkF K.m (pc + 3) Ls st)) : WP l Z EL it n0 own h0 ws0 Q K h ws cells slots (mkF K.m pc Ls (.int y :: .int x :: st)) :=
  C.icmp pc' hd ho hp (fun q => t ((hGt x y).1.mp q)) (fun q => f ((hGt x y).2.mp q))
theorem Ok.ifc_gt (C : Ok l Z a0 EL it n0 own h0 ws0 Q code maxL ret nm rm K) {x : Int32} {o : Int} (pc' : Nat) (hd : decode code pc = .ok (.ifCond .gt o, 3)) (ho : 0 ≤ (pc : Int) + o) (hp : ((pc : Int) + o).toNat = pc') (t : 0 < x.toInt → WP l Z EL it n0 own h0 ws0 Q K h ws cells slots (mkF K.m pc' Ls st)) (f : x.toInt ≤ 0 → WP l Z EL it n0 own h0 ws0 Q K h ws cells slots (mkF K.m (pc + 3) Ls st)) : WP l Z EL it n0 own h0 ws0 Q K h ws cells slots (mkF K.m pc Ls (.int x :: st)) :=
  C.ifc pc' hd ho hp (fun q => t ((hGt x 0).1.mp q)) (fun q => f ((hGt x 0).2.mp q))
theorem Ok.icmp_le (C : Ok l Z a0 EL it n0 own h0 ws0 Q code maxL ret nm rm K) {x y : Int32} {o : Int} (pc' : Nat) (hd : decode code pc = .ok (.if_icmp .le o, 3)) (ho : 0 ≤ (pc : Int) + o) (hp : ((pc : Int) + o).toNat = pc') (t : x.toInt ≤ y.toInt → WP l Z EL it n0 own h0 ws0 Q K h ws cells slots (mkF K.m pc' Ls st)) (f : y.toInt < x.toInt → WP l Z EL it n0 own h0 ws0 Q K h ws cells slots (mkF K.m (pc + 3) Ls st)) : WP l Z EL it n0 own h0 ws0 Q K h ws cells slots (mkF K.m pc Ls (.int y :: .int x :: st)) :=
  C.icmp pc' hd ho hp (fun q => t ((hLe x y).1.mp q)) (fun q => f ((hLe x y).2.mp q))
theorem Ok.ifc_le (C : Ok l Z a0 EL it n0 own h0 ws0 Q code maxL ret nm rm K) {x : Int32} {o : Int} (pc' : Nat) (hd : decode code pc = .ok (.ifCond .le o, 3)) (ho : 0 ≤ (pc : Int) + o) (hp : ((pc : Int) + o).toNat = pc') (t : x.toInt ≤ 0 → WP l Z EL it n0 own h0 ws0 Q K h ws cells slots (mkF K.m pc' Ls st)) (f : 0 < x.toInt → WP l Z EL it n0 own h0 ws0 Q K h ws cells slots (mkF K.m (pc + 3) Ls st)) : WP l Z EL it n0 own h0 ws0 Q K h ws cells slots (mkF K.m pc Ls (.int x :: st)) :=
  C.ifc pc' hd ho hp (fun q => t ((hLe x 0).1.mp q)) (fun q => f ((hLe x 0).2.mp q))
theorem Ok.ifnullY (C : Ok l Z a0 EL it n0 own h0 ws0 Q code maxL ret nm rm K) {o : Int} (pc' : Nat) (hd : decode code pc = .ok (.ifnull o, 3)) (ho : 0 ≤ (pc : Int) + o) (hp : ((pc : Int) + o).toNat = pc') (r : WP l Z EL it n0 own h0 ws0 Q K h ws cells slots (mkF K.m pc' Ls st)) : WP l Z EL it n0 own h0 ws0 Q K h ws cells slots (mkF K.m pc Ls (.null :: st)) :=
  WP.step (fun _ _ _ P _ k => XS.ifnullYes P.1.here C.exec rfl rfl (hb C.bytes hd) rfl ho hp k) r
theorem Ok.ifnullN (C : Ok l Z a0 EL it n0 own h0 ws0 Q code maxL ret nm rm K) {o : Int} {b : Nat} (hd : decode code pc = .ok (.ifnull o, 3)) (r : WP l Z EL it n0 own h0 ws0 Q K h ws cells slots (mkF K.m (pc + 3) Ls st)) : WP l Z EL it n0 own h0 ws0 Q K h ws cells slots (mkF K.m pc Ls (.ref b :: st)) :=
  WP.step (fun _ _ _ P _ k => XS.ifnullNo P.1.here C.exec rfl (hb C.bytes hd) rfl k) r
theorem Ok.ifnonnullY (C : Ok l Z a0 EL it n0 own h0 ws0 Q code maxL ret nm rm K) {o : Int} {b : Nat} (pc' : Nat) (hd : decode code pc = .ok (.ifnonnull o, 3)) (ho : 0 ≤ (pc : Int) + o) (hp : ((pc : Int) + o).toNat = pc') (r : WP l Z EL it n0 own h0 ws0 Q K h ws cells slots (mkF K.m pc' Ls st)) : WP l Z EL it n0 own h0 ws0 Q K h ws cells slots (mkF K.m pc Ls (.ref b :: st)) :=
  WP.step (fun _ _ _ P _ k => XS.ifnonnullYes P.1.here C.exec rfl rfl (hb C.bytes hd) rfl ho hp k) r
theorem Ok.ifnonnullN (C : Ok l Z a0 EL it n0 own h0 ws0 Q code maxL ret nm rm K) {o : Int} (hd : decode code pc = .ok (.ifnonnull o, 3)) (r : WP l Z EL it n0 own h0 ws0 Q K h ws cells slots (mkF K.m (pc + 3) Ls st)) : WP l Z EL it n0 own h0 ws0 Q K h ws cells slots (mkF K.m pc Ls (.null :: st)) :=
  WP.step (fun _ _ _ P _ k => XS.ifnonnullNo P.1.here C.exec rfl (hb C.bytes hd) rfl k) r
theorem Ok.acmp (C : Ok l Z a0 EL it n0 own h0 ws0 Q code maxL ret nm rm K) {cd : ACond} {x y : Value} {o : Int} (pc' : Nat) (same : Bool) (hd : decode code pc = .ok (.if_acmp cd o, 3)) (h1 : x.isRef = true) (h2 : y.isRef = true) (hq : decide (x = y) = same) (ho : 0 ≤ (pc : Int) + o) (hp : pc' = if acV cd same = true then ((pc : Int) + o).toNat else pc + 3) (r : WP l Z EL it n0 own h0 ws0 Q K h ws cells slots (mkF K.m pc' Ls st)) : WP l Z EL it n0 own h0 ws0 Q K h ws cells slots (mkF K.m pc Ls (y :: x :: st)) :=
  WP.step (fun _ _ _ P _ k => RoadKit.acmp P.1 C.exec (g := mkF K.m pc Ls (y :: x :: st)) rfl h1 h2 rfl (hb C.bytes hd) rfl hq ho hp k) r
theorem Ok.tswIn (C : Ok l Z a0 EL it n0 own h0 ws0 Q code maxL ret nm rm K) {dflt low high : Int} {offs : Array Int} {len : Nat} {o : Int} {i : Int32} (pc' : Nat) (hd : decode code pc = .ok (.tableswitch dflt low high offs, len)) (hin : ¬ (i.toInt < low ∨ i.toInt > high)) (hoff : offs[(i.toInt - low).toNat]? = some o) (ho : 0 ≤ (pc : Int) + o) (hp : ((pc : Int) + o).toNat = pc') (r : WP l Z EL it n0 own h0 ws0 Q K h ws cells slots (mkF K.m pc' Ls st)) : WP l Z EL it n0 own h0 ws0 Q K h ws cells slots (mkF K.m pc Ls (.int i :: st)) :=
  WP.step (fun _ _ _ P _ k => XS.tswIn P.1.here C.exec rfl rfl (hb C.bytes hd) rfl hin hoff ho hp k) r
theorem Ok.tswOut (C : Ok l Z a0 EL it n0 own h0 ws0 Q code maxL ret nm rm K) {dflt low high : Int} {offs : Array Int} {len : Nat} {i : Int32} (pc' : Nat) (hd : decode code pc = .ok (.tableswitch dflt low high offs, len)) (hout : i.toInt < low ∨ i.toInt > high) (ho : 0 ≤ (pc : Int) + dflt) (hp : ((pc : Int) + dflt).toNat = pc') (r : WP l Z EL it n0 own h0 ws0 Q K h ws cells slots (mkF K.m pc' Ls st)) : WP l Z EL it n0 own h0 ws0 Q K h ws cells slots (mkF K.m pc Ls (.int i :: st)) :=
  WP.step (fun _ _ _ P _ k => XS.tswOut P.1.here C.exec rfl rfl (hb C.bytes hd) rfl hout ho hp k) r
/-! the heap -/
theorem Ok.getF (C : Ok l Z a0 EL it n0 own h0 ws0 Q code maxL ret nm rm K) {R0 O n d host : String} {index : Nat} {a : Nat} {v : Value} (w : (Jvm.Cond.fieldLink own index R0 n d).before a0 Z = true ∨ (Jvm.Cond.fieldLinkNest own index R0 n d host).before a0 Z = true) (via : Via Z R0 O n d) (F : Fld Z h a O n d v) (hd : decode code pc = .ok (.getfield index, 3))
    (r : WP l Z EL it n0 own h0 ws0 Q K h ws cells slots (mkF K.m (pc + 3) Ls (v :: st))) : WP l Z EL it n0 own h0 ws0 Q K h ws cells slots (mkF K.m pc Ls (.ref a :: st)) := by
  intro vm T locs P
  obtain ⟨T', X', e', s'⟩ := RoadKit.getF P.1 C.exec P.2.2.2.1 P.2.2.2.2.1 w via P.2.1 F (g := mkF K.m pc Ls (.ref a :: st)) rfl rfl (hb C.bytes hd)
  exact Goes.of s' (r vm T' locs ⟨X', e', P.2.2⟩)
theorem Ok.getS (C : Ok l Z a0 EL it n0 own h0 ws0 Q code maxL ret nm rm K) {R0 O n d : String} {index : Nat} {v : Value} (w : (Jvm.Cond.fieldLink own index R0 n d).before a0 Z = true) (via : Via Z R0 O n d) (F : Sta Z Z.heap O n d v) (hd : decode code pc = .ok (.getstatic index, 3))
    (r : WP l Z EL it n0 own h0 ws0 Q K h ws cells slots (mkF K.m (pc + 3) Ls (v :: st))) : WP l Z EL it n0 own h0 ws0 Q K h ws cells slots (mkF K.m pc Ls st) := by
  intro vm T locs P
  obtain ⟨T', X', e', s'⟩ := RoadKit.getS (host := "") P.1 C.exec P.2.2.2.1 P.2.2.2.2.1 w via P.2.1 (F.ext P.2.2.2.2.2.2.2.2.1.2) (g := mkF K.m pc Ls st) rfl (hb C.bytes hd)
  exact Goes.of s' (r vm T' locs ⟨X', e', P.2.2⟩)
theorem Ok.castY (C : Ok l Z a0 EL it n0 own h0 ws0 Q code maxL ret nm rm K) {J : String} {index : Nat} {a : Nat} (w : (Jvm.Cond.classLink own index J).before a0 Z = true) (F : Ins Z h a J true) (hd : decode code pc = .ok (.checkcast index, 3))
    (r : WP l Z EL it n0 own h0 ws0 Q K h ws cells slots (mkF K.m (pc + 3) Ls (.ref a :: st))) : WP l Z EL it n0 own h0 ws0 Q K h ws cells slots (mkF K.m pc Ls (.ref a :: st)) := by
  intro vm T locs P
  obtain ⟨T', X', e', s'⟩ := RoadKit.castY P.1 C.exec P.2.2.2.1 P.2.2.2.2.1 w P.2.1 F (g := mkF K.m pc Ls (.ref a :: st)) rfl rfl (hb C.bytes hd)
  exact Goes.of s' (r vm T' locs ⟨X', e', P.2.2⟩)
theorem Ok.instY (C : Ok l Z a0 EL it n0 own h0 ws0 Q code maxL ret nm rm K) {J : String} {index : Nat} {a : Nat} (w : (Jvm.Cond.classLink own index J).before a0 Z = true) (F : Ins Z h a J true) (hd : decode code pc = .ok (.instanceof index, 3))
    (r : WP l Z EL it n0 own h0 ws0 Q K h ws cells slots (mkF K.m (pc + 3) Ls (.int 1 :: st))) : WP l Z EL it n0 own h0 ws0 Q K h ws cells slots (mkF K.m pc Ls (.ref a :: st)) := by
  intro vm T locs P
  obtain ⟨T', X', e', s'⟩ := RoadKit.instY P.1 C.exec P.2.2.2.1 P.2.2.2.2.1 w P.2.1 F (g := mkF K.m pc Ls (.ref a :: st)) rfl rfl (hb C.bytes hd)
  exact Goes.of s' (r vm T' locs ⟨X', e', P.2.2⟩)
theorem keep_ext {h h' : Heap} (E : Ext h h') : Keep h h' [] := (Keep.refl h []).ext E
theorem Ok.new (C : Ok l Z a0 EL it n0 own h0 ws0 Q code maxL ret nm rm K) {J : String} {index n : Nat} (w : (Jvm.Cond.classLink own index J).before a0 Z = true) (wi : (Jvm.Cond.instantiable J n).before a0 Z = true) (wz : (Jvm.Cond.initialized J).before a0 Z = true) (hd : decode code pc = .ok (.new index, 3)) (hc : cells + 1 ≤ rm.cells) (hl : slots + n ≤ rm.slots)
    (r : ∀ (h' : Heap) (a : Nat), @Eq Nat a h.size → h.size < h'.size → n0 ≤ a → Keep h h' [] → Exa Z h' a J → (∀ {O nm d : String} {ty : FieldType}, RoadKit.Laid Z a0 J O nm d → parseFieldDescriptor d = some ty → Fld Z h' a O nm d (defaultValue ty)) → WP l Z EL it n0 own h0 ws0 Q K h' (a :: ws) (cells + 1) (slots + n) (mkF K.m (pc + 3) Ls (.ref a :: st))) :
    WP l Z EL it n0 own h0 ws0 Q K h ws cells slots (mkF K.m pc Ls st) := by
  intro vm T locs P
  obtain ⟨T', h', X', e', E, A, D, -, s'⟩ := newO P.1 C.exec P.2.2.2.1 P.2.2.2.2.1 w wi wz P.2.1 (g := mkF K.m pc Ls st) rfl (hb C.bytes hd) (by rw [C.room]; exact hc) (by rw [C.room]; exact hl)
  exact Goes.of s' (r h' h.size rfl A.lt (P.2.2.2.2.2.2.2.2.1.1 ▸ P.2.2.2.2.2.2.2.2.1.2.1) (keep_ext E) A D vm T' locs (P.new X' e' E A.lt))
theorem Ok.putF (C : Ok l Z a0 EL it n0 own h0 ws0 Q code maxL ret nm rm K) {R0 O n d host J : String} {index kk : Nat} {ty : FieldType} {a : Nat} {v old : Value} (w : (Jvm.Cond.fieldLink own index R0 n d).before a0 Z = true ∨ (Jvm.Cond.fieldLinkNest own index R0 n d host).before a0 Z = true) (via : Via Z R0 O n d) (F : Fld Z h a O n d old) (E : Exa Z h a J)
    (L : (Jvm.Cond.lays J O n d).before a0 Z = true ∨ ((Jvm.Cond.laysFinal J O n d).before a0 Z = true ∧ own = O ∧ nm = "<init>")) (wi : (Jvm.Cond.instantiable J kk).before a0 Z = true) (hty : parseFieldDescriptor d = some ty) (hn : narrow ty v = v) (hf : fits ty v = true) (hd : decode code pc = .ok (.putfield index, 3)) (ha : a ∈ ws)
    (r : ∀ h' : Heap, h'.size = h.size → Keep h h' [a] → Exa Z h' a J → Fld Z h' a O n d v → (∀ {O' n' d' : String} {u : Value}, RoadKit.slotOf Z O' n' d' ≠ RoadKit.slotOf Z O n d → Fld Z h a O' n' d' u → Fld Z h' a O' n' d' u) → WP l Z EL it n0 own h0 ws0 Q K h' ws cells slots (mkF K.m (pc + 3) Ls st)) :
    WP l Z EL it n0 own h0 ws0 Q K h ws cells slots (mkF K.m pc Ls (v :: .ref a :: st)) := by
  intro vm T locs P
  obtain ⟨T', h', X', e', W, s'⟩ := RoadKit.putF P.1 C.exec P.2.2.2.1 P.2.2.2.2.1 w via P.2.1 F E (L.imp id fun q => ⟨q.1, q.2.1, C.named.trans q.2.2⟩) wi hty hn hf (g := mkF K.m pc Ls (v :: .ref a :: st)) rfl rfl (hb C.bytes hd)
  exact Goes.of s' (r h' W.size (Keep.of_wr W) (E.wr W) (F.same W) (fun q G => G.other W (Or.inr q)) vm T' _ (P.wr ha X' e' W))
/-- an array and all that it holds -/
def Ary (Z : State) (h : Heap) (a : Nat) (ty : FieldType) (vs : List Value) : Prop := ∃ c : Cell, RoadKit.Arr Z h a c ty ∧ c.slots.toList = vs ∧ vs.length < 2 ^ 31 ∧ ∀ v ∈ vs, fits ty v = true
theorem Ary.lt {a : Nat} {ty : FieldType} {vs : List Value} (A : Ary Z h a ty vs) : a < h.size := by obtain ⟨c, A, -⟩ := A; exact A.lt
theorem Ary.keep {h' : Heap} {a : Nat} {ty : FieldType} {vs : List Value} {us : List Addr} (A : Ary Z h a ty vs) (Kp : Keep h h' us) (q : a ∉ us) : Ary Z h' a ty vs := by
  obtain ⟨c, A, r⟩ := A; exact ⟨c, ⟨Kp.2.1 a c A.1 q, A.2⟩, r⟩
theorem Ary.len {a : Nat} {ty : FieldType} {vs : List Value} (A : Ary Z h a ty vs) : vs.length < 2 ^ 31 := by obtain ⟨c, -, -, r, -⟩ := A; exact r
theorem Ary.arv {a : Nat} {ty : FieldType} {vs : List Value} {n : Int32} {d : Value} (A : Ary Z h a ty vs) (hn : n.toInt = vs.length) : ∃ k, Arv Z h a k ty n vs d := by
  obtain ⟨c, A, r, q, f⟩ := A
  subst r
  have hz : c.slots.size = n.toNatClampNeg := by
    rw [← Int32.toNat_toInt, hn]; simp
  refine ⟨c.cls, c, A, rfl, hz, fun w => ?_, fun k hk => ?_, fun i hi => ?_⟩
  · rw [Int32.lt_iff_toInt_lt, hn] at w
    have : (0 : Int32).toInt = 0 := rfl
    omega
  · simp [hk]
  · have : c.slots.toList.getD i d = c.slots[i] := by simp [hi]
    rw [this]
    exact f _ (by simp)
theorem Ary.of_arv {a : Nat} {ty : FieldType} {vs : List Value} {n : Int32} {d : Value} {k : ClassId} (A : Arv Z h a k ty n vs d) (hn : n.toNatClampNeg = vs.length) : Ary Z h a ty vs := by
  obtain ⟨c, A, -, r2, r3, H, G⟩ := A
  have e : c.slots.toList = vs := by
    apply List.ext_getElem?
    intro i
    by_cases hi : i < c.slots.size
    · have q := H i hi
      rw [Array.getElem?_toList, q]
      have hi' : i < vs.length := by omega
      simp [hi']
    · rw [List.getElem?_eq_none (by simpa using hi), List.getElem?_eq_none (by omega)]
  refine ⟨c, A, e, ?_, fun v hv => ?_⟩
  · rw [← hn, ← Int32.toNat_toInt]
    have := n.toInt_lt
    omega
  · obtain ⟨i, hi, rfl⟩ := List.getElem_of_mem hv
    have := G i (by omega)
    simpa [hi] using this
theorem Ok.newarr (C : Ok l Z a0 EL it n0 own h0 ws0 Q code maxL ret nm rm K) {aty : ArrayType} {n : Int32} (k cap : Nat) (w : (Jvm.Cond.arrayClass (newarray.typeOf aty)).before a0 Z = true) (hd : decode code pc = .ok (.newarray aty, 2)) (hn : n.toInt = k) (hk' : k ≤ cap) (hb' : cap * 8 ≤ 536870912) (hc : cells + 1 ≤ rm.cells) (hl : slots + cap ≤ rm.slots)
    (r : ∀ (h' : Heap) (a : Nat), @Eq Nat a h.size → h.size < h'.size → n0 ≤ a → Keep h h' [] → Ary Z h' a (newarray.typeOf aty) (List.replicate k (defaultValue (newarray.typeOf aty))) → WP l Z EL it n0 own h0 ws0 Q K h' (a :: ws) (cells + 1) (slots + cap) (mkF K.m (pc + 2) Ls (.ref a :: st))) :
    WP l Z EL it n0 own h0 ws0 Q K h ws cells slots (mkF K.m pc Ls (.int n :: st)) := by
  intro vm T locs P
  have hk : n.toNatClampNeg = k := by rw [← Int32.toNat_toInt, hn]; simp
  obtain ⟨T', h', cA, X', e', E, A, s'⟩ := newP P.1 C.exec P.2.2.2.1 w P.2.1 (g := mkF K.m pc Ls (.int n :: st)) rfl (hb C.bytes hd) rfl (fun q => by rw [Int32.lt_iff_toInt_lt, hn] at q; have : (0 : Int32).toInt = 0 := rfl; omega) (cap := cap) (hk ▸ hk') hb' (by rw [C.room]; exact hc) (by rw [C.room]; exact hl)
  refine Goes.of s' (r h' h.size rfl A.lt (P.2.2.2.2.2.2.2.2.1.1 ▸ P.2.2.2.2.2.2.2.2.1.2.1) (keep_ext E) ⟨_, A, by simp [newA, hk], ?_, fun v hv => ?_⟩ vm T' locs (P.new X' e' E A.lt))
  · simp; omega
  · obtain ⟨-, rfl⟩ := List.mem_replicate.mp hv
    cases aty <;> rfl
theorem Ok.alen (C : Ok l Z a0 EL it n0 own h0 ws0 Q code maxL ret nm rm K) {a : Nat} {ty : FieldType} {vs : List Value} {n : Int32} (A : Ary Z h a ty vs) (hn : n.toInt = vs.length) (hd : decode code pc = .ok (.arraylength, 1)) (r : WP l Z EL it n0 own h0 ws0 Q K h ws cells slots (mkF K.m (pc + 1) Ls (.int n :: st))) : WP l Z EL it n0 own h0 ws0 Q K h ws cells slots (mkF K.m pc Ls (.ref a :: st)) := by
  intro vm T locs P
  obtain ⟨c, A, q, hl, -⟩ := A
  refine Goes.of (fun t k => P.1.arraylength C.exec (by rw [P.2.1]; exact A.1) (State.isArrayOf_alike P.2.2.2.1.alike A.2.1) (g := mkF K.m pc Ls (.ref a :: st)) rfl rfl (hb C.bytes hd) t ?_) (r vm T locs P)
  have e : c.slots.size.toInt32 = n := by
    apply Int32.toInt_inj.mp
    rw [hn, ← q]
    have : c.slots.size < 2 ^ 31 := by rw [← q] at hl; simpa using hl
    simpa using RoadKit.len_toInt this
  rw [e]; exact k
theorem idx_ok {j : Int32} {i n : Nat} (hj : j.toInt = i) (hi : i < n) : ¬ (j < 0 ∨ n ≤ j.toNatClampNeg) ∧ j.toNatClampNeg = i := by
  have e : j.toNatClampNeg = i := by rw [← Int32.toNat_toInt, hj]; simp
  refine ⟨fun q => ?_, e⟩
  rw [e, Int32.lt_iff_toInt_lt, hj] at q
  have : (0 : Int32).toInt = 0 := rfl
  omega
theorem Ok.caload (C : Ok l Z a0 EL it n0 own h0 ws0 Q code maxL ret nm rm K) {a : Addr} {vs : List Value} {j : Int32} {x : Int32} (i : Nat) (A : Ary Z h a .char vs) (hj : j.toInt = i) (hx : vs[i]? = some (.int x)) (hd : decode code pc = .ok (.caload, 1)) (r : WP l Z EL it n0 own h0 ws0 Q K h ws cells slots (mkF K.m (pc + 1) Ls (.int x :: st))) : WP l Z EL it n0 own h0 ws0 Q K h ws cells slots (mkF K.m pc Ls (.int j :: .ref a :: st)) := by
  intro vm T locs P
  obtain ⟨c, A, q, hl, f⟩ := A
  have hs : c.slots.size = vs.length := by rw [← q]; simp
  have hi : i < vs.length := (List.getElem?_eq_some_iff.mp hx).1
  obtain ⟨hin, hji⟩ := idx_ok hj (hs ▸ hi)
  exact Goes.of (fun t k => P.1.caload C.exec (by rw [P.2.1]; exact A.1) (State.isArrayOf_alike P.2.2.2.1.alike A.2.1) A.2.2 hin (v := .int x) (by rw [hji, ← Array.getElem?_toList, q]; exact hx) (g := mkF K.m pc Ls (.int j :: .ref a :: st)) rfl rfl (hb C.bytes hd) t k) (r vm T locs P)
theorem Ok.baload (C : Ok l Z a0 EL it n0 own h0 ws0 Q code maxL ret nm rm K) {a : Addr} {vs : List Value} {j : Int32} {x : Int32} (i : Nat) (A : Ary Z h a .byte vs) (hj : j.toInt = i) (hx : vs[i]? = some (.int x)) (hd : decode code pc = .ok (.baload, 1)) (r : WP l Z EL it n0 own h0 ws0 Q K h ws cells slots (mkF K.m (pc + 1) Ls (.int x :: st))) : WP l Z EL it n0 own h0 ws0 Q K h ws cells slots (mkF K.m pc Ls (.int j :: .ref a :: st)) := by
  intro vm T locs P
  obtain ⟨c, A, q, hl, f⟩ := A
  have hs : c.slots.size = vs.length := by rw [← q]; simp
  have hi : i < vs.length := (List.getElem?_eq_some_iff.mp hx).1
  obtain ⟨hin, hji⟩ := idx_ok hj (hs ▸ hi)
  exact Goes.of (fun t k => P.1.baloadBytes C.exec (by rw [P.2.1]; exact A.1) (State.isArrayOf_alike P.2.2.2.1.alike A.2.1) A.2.2 hin (v := .int x) (by rw [hji, ← Array.getElem?_toList, q]; exact hx) (g := mkF K.m pc Ls (.int j :: .ref a :: st)) rfl rfl (hb C.bytes hd) t k) (r vm T locs P)
theorem Ok.laload (C : Ok l Z a0 EL it n0 own h0 ws0 Q code maxL ret nm rm K) {a : Addr} {vs : List Value} {j : Int32} {x : Int64} (i : Nat) (A : Ary Z h a .long vs) (hj : j.toInt = i) (hx : vs[i]? = some (.long x)) (hd : decode code pc = .ok (.laload, 1)) (r : WP l Z EL it n0 own h0 ws0 Q K h ws cells slots (mkF K.m (pc + 1) Ls (.long x :: st))) : WP l Z EL it n0 own h0 ws0 Q K h ws cells slots (mkF K.m pc Ls (.int j :: .ref a :: st)) := by
  intro vm T locs P
  obtain ⟨c, A, q, hl, f⟩ := A
  have hs : c.slots.size = vs.length := by rw [← q]; simp
  have hi : i < vs.length := (List.getElem?_eq_some_iff.mp hx).1
  obtain ⟨hin, hji⟩ := idx_ok hj (hs ▸ hi)
  exact Goes.of (fun t k => P.1.laload C.exec (by rw [P.2.1]; exact A.1) (State.isArrayOf_alike P.2.2.2.1.alike A.2.1) A.2.2 hin (v := .long x) (by rw [hji, ← Array.getElem?_toList, q]; exact hx) (g := mkF K.m pc Ls (.int j :: .ref a :: st)) rfl rfl (hb C.bytes hd) t k) (r vm T locs P)
theorem Ary.set {a : Nat} {ty : FieldType} {vs : List Value} {c : Cell} {h' : Heap} {i : Nat} {v : Value} (A : RoadKit.Arr Z h a c ty) (q : c.slots.toList = vs) (hl : vs.length < 2 ^ 31) (f : ∀ v ∈ vs, fits ty v = true) (hv : fits ty v = true) (W : Wr h h' a i v) : Ary Z h' a ty (vs.set i v) := by
  refine ⟨_, A.same W, ?_, by simpa using hl, fun u hu => ?_⟩
  · simp [Cell.setSlot, q]
  · rcases List.mem_or_eq_of_mem_set hu with hu | rfl
    · exact f u hu
    · exact hv
theorem nar_char {x : Int32} (h0 : 0 ≤ x.toInt) (h1 : x.toInt < 65536) : nar .char x = x := by
  apply Int32.toInt_inj.mp
  have q := c_i2c x
  show x.toUInt32.toUInt16.toUInt32.toInt32.toInt = _
  omega
theorem i2c_id {x : Int32} (h0 : 0 ≤ x.toInt) (h1 : x.toInt < 65536) : x.toUInt32.toUInt16.toUInt32.toInt32 = x := nar_char h0 h1
theorem Ok.castore (C : Ok l Z a0 EL it n0 own h0 ws0 Q code maxL ret nm rm K) {a : Nat} {vs : List Value} {j x : Int32} (i : Nat) (A : Ary Z h a .char vs) (hj : j.toInt = i) (hi : i < vs.length) (x0 : 0 ≤ x.toInt) (x1 : x.toInt < 65536) (hd : decode code pc = .ok (.castore, 1)) (ha : a ∈ ws)
    (r : ∀ h' : Heap, h'.size = h.size → Keep h h' [a] → Ary Z h' a .char (vs.set i (.int x)) → WP l Z EL it n0 own h0 ws0 Q K h' ws cells slots (mkF K.m (pc + 1) Ls st)) : WP l Z EL it n0 own h0 ws0 Q K h ws cells slots (mkF K.m pc Ls (.int x :: .int j :: .ref a :: st)) := by
  intro vm T locs P
  obtain ⟨c, A, q, hl, f⟩ := A
  have hs : c.slots.size = vs.length := by rw [← q]; simp
  obtain ⟨hin, hji⟩ := idx_ok hj (hs ▸ hi)
  obtain ⟨T', h', X', e', W, s'⟩ := stC P.1 C.exec P.2.2.2.1 P.2.1 A hin (g := mkF K.m pc Ls (.int x :: .int j :: .ref a :: st)) rfl rfl (hb C.bytes hd)
  have W' := W
  rw [hji, nar_char x0 x1] at W
  exact Goes.of s' (r h' W'.size (Keep.of_wr W') (Ary.set A q hl f (by have := fits_nar_char x; rwa [nar_char x0 x1] at this) W) vm T' _ (P.wr ha X' e' W'))
theorem Ok.bastore (C : Ok l Z a0 EL it n0 own h0 ws0 Q code maxL ret nm rm K) {a : Nat} {vs : List Value} {j x : Int32} (i : Nat) (A : Ary Z h a .byte vs) (hj : j.toInt = i) (hi : i < vs.length) (hd : decode code pc = .ok (.bastore, 1)) (ha : a ∈ ws)
    (r : ∀ h' : Heap, h'.size = h.size → Keep h h' [a] → Ary Z h' a .byte (vs.set i (.int x.toInt8.toInt32)) → WP l Z EL it n0 own h0 ws0 Q K h' ws cells slots (mkF K.m (pc + 1) Ls st)) : WP l Z EL it n0 own h0 ws0 Q K h ws cells slots (mkF K.m pc Ls (.int x :: .int j :: .ref a :: st)) := by
  intro vm T locs P
  obtain ⟨c, A, q, hl, f⟩ := A
  have hs : c.slots.size = vs.length := by rw [← q]; simp
  obtain ⟨hin, hji⟩ := idx_ok hj (hs ▸ hi)
  obtain ⟨T', h', X', e', W, s'⟩ := stB P.1 C.exec P.2.2.2.1 P.2.1 A hin (g := mkF K.m pc Ls (.int x :: .int j :: .ref a :: st)) rfl rfl (hb C.bytes hd)
  have W' := W
  rw [hji] at W
  exact Goes.of s' (r h' W'.size (Keep.of_wr W') (Ary.set A q hl f (fits_nar_byte x) W) vm T' _ (P.wr ha X' e' W'))
theorem Ok.lastore (C : Ok l Z a0 EL it n0 own h0 ws0 Q code maxL ret nm rm K) {a : Nat} {vs : List Value} {j : Int32} {x : Int64} (i : Nat) (A : Ary Z h a .long vs) (hj : j.toInt = i) (hi : i < vs.length) (hd : decode code pc = .ok (.lastore, 1)) (ha : a ∈ ws)
    (r : ∀ h' : Heap, h'.size = h.size → Keep h h' [a] → Ary Z h' a .long (vs.set i (.long x)) → WP l Z EL it n0 own h0 ws0 Q K h' ws cells slots (mkF K.m (pc + 1) Ls st)) : WP l Z EL it n0 own h0 ws0 Q K h ws cells slots (mkF K.m pc Ls (.long x :: .int j :: .ref a :: st)) := by
  intro vm T locs P
  obtain ⟨c, A, q, hl, f⟩ := A
  have hs : c.slots.size = vs.length := by rw [← q]; simp
  obtain ⟨hin, hji⟩ := idx_ok hj (hs ▸ hi)
  obtain ⟨T', h', X', e', W, s'⟩ := stJ P.1 C.exec P.2.2.2.1 P.2.1 A hin (g := mkF K.m pc Ls (.long x :: .int j :: .ref a :: st)) rfl rfl (hb C.bytes hd)
  have W' := W
  rw [hji] at W
  exact Goes.of s' (r h' W'.size (Keep.of_wr W') (Ary.set A q hl f rfl W) vm T' _ (P.wr ha X' e' W'))
/-! ends -/
theorem endMore {s t : State} {o : Outcome} {L : List Loc} {k n k' n' : Nat} (R : ReturnedEndW s o t L k n) (hk : k ≤ k') (hn : n ≤ n') : ReturnedEndW s o t L k' n' := ⟨R.1, R.2.1, R.2.2.1, R.2.2.2.mono hk hn⟩
theorem Ok.leave (C : Ok l Z a0 EL it n0 own h0 ws0 Q code maxL ret nm rm K) {v : Option Value} (hv : ret = none → v = none) (hq : Q v h) (hc : cells ≤ rm.cells) (hl : slots ≤ rm.slots)
    (go : ∀ (T : State) (vm : Vm) (locs : List Loc) (fs : List Frame), Stand K.p l K.e K.R (K.s.setVm vm) K.m K.args K.below K.meth K.c T locs cells slots → (∀ (f : JFrame) (acts : List Action), f.method = K.m → f.locked = none → f.entered = [] → (doReturn K.e (T.setTop f) acts v).1 = T.setFrames fs) → Steps K.p.tables K.e K.below (T.setTop g) (T.setFrames fs)) :
    WP l Z EL it n0 own h0 ws0 Q K h ws cells slots g := by
  intro vm T locs P
  obtain ⟨X, eT, ⟨k, hS, hk⟩, hZ, hown, H, N, Kp, O, Ow⟩ := P
  obtain ⟨fs, hr, h1, h2, hR⟩ := X.leaveW hS (by rw [eT]; exact hk) (v := v) (fun q => hv (C.rets.symm.trans q)) C.unlocked
  have eh : (T.setFrames fs).heap = h := eT
  refine ⟨_, _, go T vm locs fs X hr, h1, h2, v, locs, rfl, ⟨by rw [eh]; exact hq, by rw [eh]; exact Kp, N⟩, ?_, endMore hR (by rw [C.room]; exact hc) (by rw [C.room]; exact hl)⟩
  rw [eh]
  show CHx it Z EL K.s.vm h0 T.vm h
  exact H.trans (CHx.still (CHv.at X hZ C.ew H.1))
theorem Ok.return_ (C : Ok l Z a0 EL it n0 own h0 ws0 Q code maxL ret nm rm K) (hr : ret = none) (hd : decode code pc = .ok (.return_, 1)) (hc : cells ≤ rm.cells) (hl : slots ≤ rm.slots) (hq : Q none h) : WP l Z EL it n0 own h0 ws0 Q K h ws cells slots (mkF K.m pc Ls []) :=
  C.leave (v := none) (fun _ => rfl) hq hc hl fun T vm locs fs X hl => X.returnOut C.exec (C.rets.trans hr) (hb C.bytes hd) hl
theorem Ok.ireturn (C : Ok l Z a0 EL it n0 own h0 ws0 Q code maxL ret nm rm K) {t : FieldType} {z : Int32} (hr : ret = some t) (ht : t = .int ∨ t = .boolean ∨ t = .byte ∨ t = .char ∨ t = .short) (hn : narrow t (.int z) = .int z) (hd : decode code pc = .ok (.ireturn, 1)) (hc : cells ≤ rm.cells) (hl : slots ≤ rm.slots) (hq : Q (some (.int z)) h) : WP l Z EL it n0 own h0 ws0 Q K h ws cells slots (mkF K.m pc Ls (.int z :: st)) :=
  C.leave (v := some (.int z)) (fun q => by rw [hr] at q; cases q) hq hc hl fun T vm locs fs X hl => retOut X C.exec (C.rets.trans hr) hn (Or.inl ⟨rfl, ht, z, rfl⟩) (hb C.bytes hd) hl
theorem Ok.areturn (C : Ok l Z a0 EL it n0 own h0 ws0 Q code maxL ret nm rm K) {t : FieldType} {v : Value} (hr : ret = some t) (ht : t.isReference = true) (hv : v.isRef = true) (hd : decode code pc = .ok (.areturn, 1)) (hc : cells ≤ rm.cells) (hl : slots ≤ rm.slots) (hq : Q (some v) h) : WP l Z EL it n0 own h0 ws0 Q K h ws cells slots (mkF K.m pc Ls (v :: st)) :=
  C.leave (v := some v) (fun q => by rw [hr] at q; cases q) hq hc hl fun T vm locs fs X hl => retOut X C.exec (C.rets.trans hr) (by rcases ref_cases hv with rfl | ⟨a, rfl⟩ <;> cases t <;> first | rfl | cases ht) (Or.inr (Or.inr (Or.inr (Or.inr ⟨rfl, ht, hv⟩)))) (hb C.bytes hd) hl
theorem Ok.lreturn (C : Ok l Z a0 EL it n0 own h0 ws0 Q code maxL ret nm rm K) {z : Int64} (hr : ret = some .long) (hd : decode code pc = .ok (.lreturn, 1)) (hc : cells ≤ rm.cells) (hl : slots ≤ rm.slots) (hq : Q (some (.long z)) h) : WP l Z EL it n0 own h0 ws0 Q K h ws cells slots (mkF K.m pc Ls (.long z :: st)) :=
  C.leave (v := some (.long z)) (fun q => by rw [hr] at q; cases q) hq hc hl fun T vm locs fs X hl => retOut X C.exec (C.rets.trans hr) rfl (Or.inr (Or.inl ⟨rfl, rfl, z, rfl⟩)) (hb C.bytes hd) hl
end Rules
end Own
end Jvm.Pilot.@@N@@
namespace Jvm.Pilot.@@N@@
namespace Own
open Jvm Jvm.ClassFile Sem Op Lib Jvm.Free Jvm.Stand Jvm.LawKit Jvm.RoadKit Bundle
section Calls
variable {l : Launch} {Z : State} {a0 : Array Value} {EL : List (String × Nat)} {it : Prop} {n0 : Nat} {own : String} {h0 : Heap} {ws0 : List Addr} {Q : Option Value → Heap → Prop} {code : ByteArray} {maxL : Nat} {ret : Option FieldType} {nm : String} {rm : Room} {K : Ctx} {h : Heap} {ws : List Addr} {cells slots pc : Nat} {Ls : Array Slot} {st stk : List Value} {g g' : JFrame}
theorem Ok.topI (C : Ok l Z a0 EL it n0 own h0 ws0 Q code maxL ret nm rm K) {x y : Int32} (e : x = y) (r : WP l Z EL it n0 own h0 ws0 Q K h ws cells slots (mkF K.m pc Ls (.int y :: st))) : WP l Z EL it n0 own h0 ws0 Q K h ws cells slots (mkF K.m pc Ls (.int x :: st)) := by subst e; exact r
theorem Ok.topJ (C : Ok l Z a0 EL it n0 own h0 ws0 Q code maxL ret nm rm K) {x y : Int64} (e : x = y) (r : WP l Z EL it n0 own h0 ws0 Q K h ws cells slots (mkF K.m pc Ls (.long y :: st))) : WP l Z EL it n0 own h0 ws0 Q K h ws cells slots (mkF K.m pc Ls (.long x :: st)) := by subst e; exact r
theorem Ok.more (C : Ok l Z a0 EL it n0 own h0 ws0 Q code maxL ret nm rm K) {cells' slots' : Nat} (h1 : cells ≤ cells') (h2 : slots ≤ slots') (r : WP l Z EL it n0 own h0 ws0 Q K h ws cells' slots' g) : WP l Z EL it n0 own h0 ws0 Q K h ws cells slots g :=
  fun vm T locs P => r vm T locs ⟨P.1.more h1 h2, P.2⟩
theorem Ok.sub (C : Ok l Z a0 EL it n0 own h0 ws0 Q code maxL ret nm rm K) {ws' : List Addr} (hs : ∀ x ∈ ws', x ∈ ws) (r : WP l Z EL it n0 own h0 ws0 Q K h ws' cells slots g) : WP l Z EL it n0 own h0 ws0 Q K h ws cells slots g :=
  fun vm T locs P => r vm T locs ⟨P.1, P.2.1, P.2.2.1, P.2.2.2.1, P.2.2.2.2.1, P.2.2.2.2.2.1, P.2.2.2.2.2.2.1, P.2.2.2.2.2.2.2.1, P.2.2.2.2.2.2.2.2.1, fun x hx => P.2.2.2.2.2.2.2.2.2 x (hs x hx)⟩
theorem Pos.call {it' : Prop} (hi : it' → it) {vm : Vm} {T U : State} {locs L : List Loc} {ws' : List Addr} {cells' slots' : Nat} (P : Pos l Z EL it n0 own h0 ws0 K h ws cells slots vm T locs) (hsub : ∀ x ∈ ws', x ∈ ws) (X' : Stand K.p l K.e K.R ((K.s.setVm vm).setVm U.vm) K.m K.args K.below K.meth K.c U (locs ++ L) cells' slots')
    (hS' : (K.s.setVm vm).Since U.vm U.heap.size) (hkp : Keep h U.heap ws') (hN : Fr n0 L) (hC : CHx it' Z EL vm h U.vm U.heap) : Pos l Z EL it n0 own h0 ws0 K U.heap ws cells' slots' U.vm U (locs ++ L) := by
  obtain ⟨X, eT, ⟨k, hS, hk⟩, hZ, hown, H, N, Kp, O, Ow⟩ := P
  obtain ⟨y1, y2, y3, y4⟩ := rebS hS hk X' hS' hkp.1 hZ hown
  exact ⟨y1, rfl, ⟨_, y2, Nat.le_refl _⟩, y3, y4, H.trans (hC.mono hi), N.app hN, Kp.trans hkp (fun x hx => (Ow x (hsub x hx)).2.2.2), O.keep hkp (fun x hx => (Ow x (hsub x hx)).1),
    fun x hx => ⟨(Ow x hx).1, Nat.lt_of_lt_of_le (Ow x hx).2.1 hkp.1, hC.safe (Ow x hx).2.1 (Ow x hx).2.2.1, (Ow x hx).2.2.2⟩⟩
theorem Ok.callS (C : Ok l Z a0 EL it n0 own h0 ws0 Q code maxL ret nm rm K) {it' : Prop} {y : MethodName} {index : Nat} {bytes' : ByteArray} {maxL' : Nat} {ret' : Option FieldType} {fr lo cl sl : Nat} {ws' : List Addr} {Q' : Option Value → Heap → Prop} {ps : List FieldType} {rt : Option FieldType} (as : List Value) (st : List Value) (W : Nat)
    (w1 : (Jvm.Cond.methodLink own index y).before a0 Z = true) (w2 : (Jvm.Cond.static y).before a0 Z = true) (w3 : (Jvm.Cond.initialized y.cls).before a0 Z = true) (w4 : (Jvm.Cond.code y bytes' maxL' ret').before a0 Z = true) (hy : y.cls ≠ "java/lang/invoke/MethodHandle" ∧ y.cls ≠ "java/lang/invoke/VarHandle")
    (pd : parseMethodDescriptor y.desc = some ⟨ps, rt⟩) (hlen : as.length = ps.length) (hi : it' → it) (M : Con l Z a0 EL it' n0 y fr lo cl sl as.toArray h ws' Q') (hd : decode code pc = .ok (.invokestatic index, 3)) (hLs : Ls.size = maxL) (hst : stk = as.reverse ++ st) (hW : (st.map fun v => v.category).sum = W)
    (hfr : fr ≤ rm.frames) (hlo : W + lo ≤ rm.locals) (hc : cells + cl ≤ rm.cells) (hs : slots + sl ≤ rm.slots) (hsub : ∀ x ∈ ws', x ∈ ws)
    (r : ∀ (v : Option Value) (h' : Heap), h.size ≤ h'.size → Keep h h' ws' → Q' v h' → WP l Z EL it n0 own h0 ws0 Q K h' ws (cells + cl) (slots + sl) (mkF K.m (pc + 3) Ls (v.toList ++ st))) : WP l Z EL it n0 own h0 ws0 Q K h ws cells slots (mkF K.m pc Ls stk) := by
  intro vm T locs P
  have P0 := P
  obtain ⟨X, eT, ⟨k, hS, hk⟩, hZ, hown, H, N, Kp, O, Ow⟩ := P
  have B := M K.R K.p K.e K.below K.s K.args 3 W vm hZ C.ew H.1 O (fun x hx => ⟨(Ow x (hsub x hx)).1, (Ow x (hsub x hx)).2.1, (Ow x (hsub x hx)).2.2.1⟩) (by rw [C.room]; exact hfr) (by rw [C.room]; exact hlo)
  obtain ⟨v, vm₁, ⟨U, locs', cells', slots'⟩, -, X', hS', hgr, ⟨L, ⟨hq, hkp, hN⟩, e1, e2, e3, hC⟩, hgo⟩ := callSS X C.exec hown (mv hZ w1) (mv hZ w2) (mv hZ w3) (mv hZ w4) hy B (g := mkF K.m pc Ls stk) rfl (hLs.trans C.maxl.symm) (rest := st) (lenOf pd hlen) hst (by rw [hW]; exact Nat.le_of_eq (Nat.zero_add _)) (hb C.bytes hd) (fun vm₁ _ => ⟨rfl, eT, by rw [C.room]; exact hc, by rw [C.room]; exact hs⟩)
  dsimp only [Pt.U, Pt.locs, Pt.cells, Pt.slots] at X' hS' hgr hq hkp e1 e2 e3 hC hgo
  subst e1 e2 e3
  exact Goes.of (fun t k => hgo.trans k) (r v U.heap hkp.1 hkp hq U.vm U _ (P0.call hi hsub X' hS' hkp hN hC))
/-- a call of a static method that interns nothing; what it has made may be written from here on -/
theorem Ok.callSo (C : Ok l Z a0 EL it n0 own h0 ws0 Q code maxL ret nm rm K) {y : MethodName} {index : Nat} {bytes' : ByteArray} {maxL' : Nat} {ret' : Option FieldType} {fr lo cl sl : Nat} {ws' : List Addr} {Q' : Option Value → Heap → Prop} {ps : List FieldType} {rt : Option FieldType} (as : List Value) (st : List Value) (W : Nat)
    (w1 : (Jvm.Cond.methodLink own index y).before a0 Z = true) (w2 : (Jvm.Cond.static y).before a0 Z = true) (w3 : (Jvm.Cond.initialized y.cls).before a0 Z = true) (w4 : (Jvm.Cond.code y bytes' maxL' ret').before a0 Z = true) (hy : y.cls ≠ "java/lang/invoke/MethodHandle" ∧ y.cls ≠ "java/lang/invoke/VarHandle")
    (pd : parseMethodDescriptor y.desc = some ⟨ps, rt⟩) (hlen : as.length = ps.length) (M : Con l Z a0 EL False n0 y fr lo cl sl as.toArray h ws' Q') (hd : decode code pc = .ok (.invokestatic index, 3)) (hLs : Ls.size = maxL) (hst : stk = as.reverse ++ st) (hW : (st.map fun v => v.category).sum = W)
    (hfr : fr ≤ rm.frames) (hlo : W + lo ≤ rm.locals) (hc : cells + cl ≤ rm.cells) (hs : slots + sl ≤ rm.slots) (hsub : ∀ x ∈ ws', x ∈ ws)
    (r : ∀ (v : Option Value) (h' : Heap), h.size ≤ h'.size → Keep h h' ws' → Q' v h' → ∃ os : List Addr, (∀ x ∈ os, h.size ≤ x ∧ x < h'.size) ∧ WP l Z EL it n0 own h0 ws0 Q K h' (os ++ ws) (cells + cl) (slots + sl) (mkF K.m (pc + 3) Ls (v.toList ++ st))) : WP l Z EL it n0 own h0 ws0 Q K h ws cells slots (mkF K.m pc Ls stk) := by
  intro vm T locs P
  have P0 := P
  obtain ⟨X, eT, ⟨k, hS, hk⟩, hZ, hown, H, N, Kp, O, Ow⟩ := P
  have B := M K.R K.p K.e K.below K.s K.args 3 W vm hZ C.ew H.1 O (fun x hx => ⟨(Ow x (hsub x hx)).1, (Ow x (hsub x hx)).2.1, (Ow x (hsub x hx)).2.2.1⟩) (by rw [C.room]; exact hfr) (by rw [C.room]; exact hlo)
  obtain ⟨v, vm₁, ⟨U, locs', cells', slots'⟩, -, X', hS', hgr, ⟨L, ⟨hq, hkp, hN⟩, e1, e2, e3, hC⟩, hgo⟩ := callSS X C.exec hown (mv hZ w1) (mv hZ w2) (mv hZ w3) (mv hZ w4) hy B (g := mkF K.m pc Ls stk) rfl (hLs.trans C.maxl.symm) (rest := st) (lenOf pd hlen) hst (by rw [hW]; exact Nat.le_of_eq (Nat.zero_add _)) (hb C.bytes hd) (fun vm₁ _ => ⟨rfl, eT, by rw [C.room]; exact hc, by rw [C.room]; exact hs⟩)
  dsimp only [Pt.U, Pt.locs, Pt.cells, Pt.slots] at X' hS' hgr hq hkp e1 e2 e3 hC hgo
  subst e1 e2 e3
  obtain ⟨os, hos, r⟩ := r v U.heap hkp.1 hkp hq
  have P1 := P0.call (it' := False) False.elim hsub X' hS' hkp hN hC
  refine Goes.of (fun t k => hgo.trans k) (r U.vm U _ ⟨P1.1, P1.2.1, P1.2.2.1, P1.2.2.2.1, P1.2.2.2.2.1, P1.2.2.2.2.2.1, P1.2.2.2.2.2.2.1, P1.2.2.2.2.2.2.2.1, P1.2.2.2.2.2.2.2.2.1, fun x hx => ?_⟩)
  rcases List.mem_append.mp hx with hx | hx
  · obtain ⟨g1, g2⟩ := hos x hx
    refine ⟨Nat.le_trans (O.1 ▸ O.2.1) g1, g2, fun q => ?_, Or.inr (Nat.le_trans Kp.1 g1)⟩
    rcases hC.2.2 x q with q | q
    · obtain ⟨c, hc⟩ := q.there
      exact absurd (Array.getElem?_eq_some_iff.mp hc).1 (Nat.not_lt.mpr g1)
    · exact q.1
  · exact P1.2.2.2.2.2.2.2.2.2 x hx
theorem Ok.callN (C : Ok l Z a0 EL it n0 own h0 ws0 Q code maxL ret nm rm K) {it' : Prop} {y : MethodName} {index : Nat} {bytes' : ByteArray} {maxL' : Nat} {fr lo cl sl : Nat} {ws' : List Addr} {Q' : Option Value → Heap → Prop} {ps : List FieldType} {rt : Option FieldType} (a : Nat) (as : List Value) (st : List Value) (W : Nat)
    (w1 : (Jvm.Cond.methodLink own index y).before a0 Z = true) (w2 : (Jvm.Cond.instanceMethod y).before a0 Z = true) (w4 : (Jvm.Cond.code y bytes' maxL' none).before a0 Z = true) (hy1 : y.name = "<init>") (hy : y.cls ≠ "java/lang/invoke/MethodHandle" ∧ y.cls ≠ "java/lang/invoke/VarHandle")
    (pd : parseMethodDescriptor y.desc = some ⟨ps, rt⟩) (hlen : as.length = ps.length) (hi : it' → it) (M : Con l Z a0 EL it' n0 y fr lo cl sl (Value.ref a :: as).toArray h ws' Q') (hd : decode code pc = .ok (.invokespecial index, 3)) (hLs : Ls.size = maxL) (hst : stk = as.reverse ++ .ref a :: st) (hW : (st.map fun v => v.category).sum = W)
    (hfr : fr ≤ rm.frames) (hlo : W + lo ≤ rm.locals) (hc : cells + cl ≤ rm.cells) (hs : slots + sl ≤ rm.slots) (hsub : ∀ x ∈ ws', x ∈ ws)
    (r : ∀ (v : Option Value) (h' : Heap), h.size ≤ h'.size → Keep h h' ws' → Q' v h' → WP l Z EL it n0 own h0 ws0 Q K h' ws (cells + cl) (slots + sl) (mkF K.m (pc + 3) Ls (v.toList ++ st))) : WP l Z EL it n0 own h0 ws0 Q K h ws cells slots (mkF K.m pc Ls stk) := by
  intro vm T locs P
  have P0 := P
  obtain ⟨X, eT, ⟨k, hS, hk⟩, hZ, hown, H, N, Kp, O, Ow⟩ := P
  have B := M K.R K.p K.e K.below K.s K.args 3 W vm hZ C.ew H.1 O (fun x hx => ⟨(Ow x (hsub x hx)).1, (Ow x (hsub x hx)).2.1, (Ow x (hsub x hx)).2.2.1⟩) (by rw [C.room]; exact hfr) (by rw [C.room]; exact hlo)
  obtain ⟨v, vm₁, ⟨U, locs', cells', slots'⟩, -, X', hS', hgr, ⟨L, ⟨hq, hkp, hN⟩, e1, e2, e3, hC⟩, hgo⟩ := X.specialBackS C.exec hy1 hown (mv hZ w1) (mv hZ w2) (mv hZ w4) hy B (g := mkF K.m pc Ls stk) rfl (hLs.trans C.maxl.symm) (Steps.refl _) (a := a) (rest := st) (lenOf pd hlen) hst (by rw [hW]; exact Nat.le_of_eq (Nat.zero_add _)) (hb C.bytes hd) (fun vm₁ _ => ⟨rfl, eT, by rw [C.room]; exact hc, by rw [C.room]; exact hs⟩)
  dsimp only [Pt.U, Pt.locs, Pt.cells, Pt.slots] at X' hS' hgr hq hkp e1 e2 e3 hC hgo
  subst e1 e2 e3
  exact Goes.of (fun t k => hgo.trans k) (r v U.heap hkp.1 hkp hq U.vm U _ (P0.call hi hsub X' hS' hkp hN hC))
theorem Ok.callV (C : Ok l Z a0 EL it n0 own h0 ws0 Q code maxL ret nm rm K) {it' : Prop} {y : MethodName} {J : String} {index : Nat} {fr lo cl sl : Nat} {ws' : List Addr} {Q' : Option Value → Heap → Prop} {ps : List FieldType} {rt : Option FieldType} (b : Nat) (as : List Value) (st : List Value) (W : Nat)
    (w1 : (Jvm.Cond.methodLink own index y).before a0 Z = true) (w2 : (Jvm.Cond.declares y).before a0 Z = true) (w3 : (Jvm.Cond.selects J y y).before a0 Z = true) (w4 : (Jvm.Cond.instanceMethod y).before a0 Z = true) (hy : y.cls ≠ "java/lang/invoke/MethodHandle" ∧ y.cls ≠ "java/lang/invoke/VarHandle") (hyJ : y.cls = J)
    (E : Exa Z h b J) (pd : parseMethodDescriptor y.desc = some ⟨ps, rt⟩) (hlen : as.length = ps.length) (hi : it' → it) (M : Con l Z a0 EL it' n0 y fr lo cl sl (Value.ref b :: as).toArray h ws' Q') (hd : decode code pc = .ok (.invokevirtual index, 3)) (hLs : Ls.size = maxL) (hst : stk = as.reverse ++ .ref b :: st) (hW : (st.map fun v => v.category).sum = W)
    (hfr : fr ≤ rm.frames) (hlo : W + lo ≤ rm.locals) (hc : cells + cl ≤ rm.cells) (hs : slots + sl ≤ rm.slots) (hsub : ∀ x ∈ ws', x ∈ ws)
    (r : ∀ (v : Option Value) (h' : Heap), h.size ≤ h'.size → Keep h h' ws' → Q' v h' → WP l Z EL it n0 own h0 ws0 Q K h' ws (cells + cl) (slots + sl) (mkF K.m (pc + 3) Ls (v.toList ++ st))) : WP l Z EL it n0 own h0 ws0 Q K h ws cells slots (mkF K.m pc Ls stk) := by
  intro vm T locs P
  have P0 := P
  obtain ⟨X, eT, ⟨k, hS, hk⟩, hZ, hown, H, N, Kp, O, Ow⟩ := P
  have B := M K.R K.p K.e K.below K.s K.args 3 W vm hZ C.ew H.1 O (fun x hx => ⟨(Ow x (hsub x hx)).1, (Ow x (hsub x hx)).2.1, (Ow x (hsub x hx)).2.2.1⟩) (by rw [C.room]; exact hfr) (by rw [C.room]; exact hlo)
  obtain ⟨cB, kB, q1, -, q3⟩ := isOf (s := K.s.setVm vm) hZ eT E
  subst hyJ
  obtain ⟨v, vm₁, ⟨U, locs', cells', slots'⟩, -, X', hS', hgr, ⟨L, ⟨hq, hkp, hN⟩, e1, e2, e3, hC⟩, hgo⟩ := X.virtualBackS C.exec (y := y) (z := y) hown (mv hZ w1) (mv hZ w2) (notFace_of_selects (args := #[]) (mv hZ w3)) (mv hZ w3) (mv hZ w4) hy B q1 q3 (g := mkF K.m pc Ls stk) rfl (hLs.trans C.maxl.symm) (Steps.refl _) (argsL := as) (rest := st) (lenOf pd hlen) hst (by rw [hW]; exact Nat.le_of_eq (Nat.zero_add _)) (hb C.bytes hd) (fun vm₁ _ => ⟨rfl, eT, by rw [C.room]; exact hc, by rw [C.room]; exact hs⟩)
  dsimp only [Pt.U, Pt.locs, Pt.cells, Pt.slots] at X' hS' hgr hq hkp e1 e2 e3 hC hgo
  subst e1 e2 e3
  exact Goes.of (fun t k => hgo.trans k) (r v U.heap hkp.1 hkp hq U.vm U _ (P0.call hi hsub X' hS' hkp hN hC))
theorem Ok.callI (C : Ok l Z a0 EL it n0 own h0 ws0 Q code maxL ret nm rm K) {it' : Prop} {x y : MethodName} {J : String} {index count : Nat} {fr lo cl sl : Nat} {ws' : List Addr} {Q' : Option Value → Heap → Prop} {ps : List FieldType} {rt : Option FieldType} (b : Nat) (as : List Value) (st : List Value) (W : Nat)
    (w1 : (Jvm.Cond.methodLink own index x).before a0 Z = true) (w2 : (Jvm.Cond.declares x).before a0 Z = true) (hk' : ((Jvm.Cond.interfaceMethod x.cls x.cls x.name x.desc).onTables && (Jvm.Cond.interfaceMethod x.cls x.cls x.name x.desc).keepsFace) = true) (w2' : (Jvm.Cond.interfaceMethod x.cls x.cls x.name x.desc).before a0 Z = true) (w3 : (Jvm.Cond.selects J x y).before a0 Z = true) (w4 : (Jvm.Cond.instanceMethod y).before a0 Z = true) (w5 : (Jvm.Cond.publicMethod y).before a0 Z = true) (w6 : (Jvm.Cond.unhidden J x.name x.desc).before a0 Z = true) (w7 : (Jvm.Cond.castable J x.cls).before a0 Z = true) (hy : x.cls ≠ "java/lang/invoke/MethodHandle" ∧ x.cls ≠ "java/lang/invoke/VarHandle")
    (E : Exa Z h b J) (pd : parseMethodDescriptor x.desc = some ⟨ps, rt⟩) (hlen : as.length = ps.length) (hi : it' → it) (M : Con l Z a0 EL it' n0 y fr lo cl sl (Value.ref b :: as).toArray h ws' Q') (hd : decode code pc = .ok (.invokeinterface index count, 5)) (hLs : Ls.size = maxL) (hst : stk = as.reverse ++ .ref b :: st) (hW : (st.map fun v => v.category).sum = W)
    (hfr : fr ≤ rm.frames) (hlo : W + lo ≤ rm.locals) (hc : cells + cl ≤ rm.cells) (hs : slots + sl ≤ rm.slots) (hsub : ∀ x ∈ ws', x ∈ ws)
    (r : ∀ (v : Option Value) (h' : Heap), h.size ≤ h'.size → Keep h h' ws' → Q' v h' → WP l Z EL it n0 own h0 ws0 Q K h' ws (cells + cl) (slots + sl) (mkF K.m (pc + 5) Ls (v.toList ++ st))) : WP l Z EL it n0 own h0 ws0 Q K h ws cells slots (mkF K.m pc Ls stk) := by
  intro vm T locs P
  have P0 := P
  obtain ⟨X, eT, ⟨k, hS, hk⟩, hZ, hown, H, N, Kp, O, Ow⟩ := P
  have B := M K.R K.p K.e K.below K.s K.args 5 W vm hZ C.ew H.1 O (fun x hx => ⟨(Ow x (hsub x hx)).1, (Ow x (hsub x hx)).2.1, (Ow x (hsub x hx)).2.2.1⟩) (by rw [C.room]; exact hfr) (by rw [C.room]; exact hlo)
  obtain ⟨cB, kB, q1, q2, q3⟩ := isOf (s := K.s.setVm vm) hZ eT E
  obtain ⟨v, vm₁, ⟨U, locs', cells', slots'⟩, -, X', hS', hgr, ⟨L, ⟨hq, hkp, hN⟩, e1, e2, e3, hC⟩, hgo⟩ := X.interfaceBackS C.exec (xi := x) (y := y) hown (mv hZ w1) (mv hZ w2) (mv hZ w2' hk') (mv hZ w3) (mv hZ w4) (mv hZ w5) (mv hZ w6) (mv hZ w7) hy B q1 q2 q3 (g := mkF K.m pc Ls stk) rfl (hLs.trans C.maxl.symm) (Steps.refl _) (argsL := as) (rest := st) (lenOf pd hlen) hst (by rw [hW]; exact Nat.le_of_eq (Nat.zero_add _)) (hb C.bytes hd) (fun vm₁ _ => ⟨rfl, eT, by rw [C.room]; exact hc, by rw [C.room]; exact hs⟩)
  dsimp only [Pt.U, Pt.locs, Pt.cells, Pt.slots] at X' hS' hgr hq hkp e1 e2 e3 hC hgo
  subst e1 e2 e3
  exact Goes.of (fun t k => hgo.trans k) (r v U.heap hkp.1 hkp hq U.vm U _ (P0.call hi hsub X' hS' hkp hN hC))
theorem Ok.initO (C : Ok l Z a0 EL it n0 own h0 ws0 Q code maxL ret nm rm K) {index : Nat} {a : Nat} (W : Nat) (w1 : (Jvm.Cond.methodLink own index Lib.objectInit).before a0 Z = true) (w2 : (Jvm.Cond.instanceMethod Lib.objectInit).before a0 Z = true) (w3 : (Jvm.Cond.code Lib.objectInit ⟨#[0xb1]⟩ 1 none).before a0 Z = true) (hd : decode code pc = .ok (.invokespecial index, 3)) (hLs : Ls.size = maxL)
    (hW : (st.map fun v => v.category).sum = W) (hfr : 1 ≤ rm.frames) (hlo : W + 12 ≤ rm.locals) (r : WP l Z EL it n0 own h0 ws0 Q K h ws cells slots (mkF K.m (pc + 3) Ls st)) : WP l Z EL it n0 own h0 ws0 Q K h ws cells slots (mkF K.m pc Ls (.ref a :: st)) := by
  intro vm T locs P
  obtain ⟨T', X', e', s'⟩ := RoadKit.initO P.1 C.exec P.2.2.2.1 P.2.2.2.2.1 w1 w2 w3 P.2.1 (g := mkF K.m pc Ls (.ref a :: st)) rfl (hLs.trans C.maxl.symm) rfl (hb C.bytes hd) (by rw [C.room]; exact hfr) (W := W) (by rw [← hW]; exact Nat.le_of_eq (Nat.zero_add _)) (by rw [C.room]; exact hlo)
  exact Goes.of s' (r vm T' locs ⟨X', e', P.2.2⟩)
/-- ldc of a String constant whose text is read -/
theorem Ok.ldcC (C : Ok l Z a0 EL it n0 own h0 ws0 Q code maxL ret nm rm K) (hit : it) {text : String} {index : Nat} {vs : List Value} {z : Int32} (n : Nat) (w : (Jvm.Cond.stringLink own index text).before a0 Z = true) (wS : ∀ a ∈ Bundle.stringAtoms, a.before a0 Z = true) (hmem : (own, index) ∈ EL)
    (ht : (∀ c ∈ text.toList, c.toNat < 256) ∧ text.toList.map (fun c => Value.int (Jvm.Lit.byteI c.toNat.toUInt16)) = vs) (hz : ¬ z < 0) (hl : z.toNatClampNeg = vs.length) (hn : 4 * text.toList.length ≤ n) (hbig : n ≤ 536870912) (hd : decode code pc = .ok (.ldc index, 2)) (hc : cells + 2 ≤ rm.cells) (hl' : slots + (n + 4) ≤ rm.slots)
    (r : ∀ (h' : Heap) (a b : Nat), h.size ≤ h'.size → Keep h h' [] → a < h'.size → b < h'.size → (∀ x ∈ ws, @Ne Nat x a ∧ @Ne Nat x b) → Exa Z h' a "java/lang/String" → Fld Z h' a "java/lang/String" "coder" "B" (.int 0) → Fld Z h' a "java/lang/String" "value" "[B" (.ref b) → Ary Z h' b .byte vs → WP l Z EL it n0 own h0 ws0 Q K h' ws (cells + 2) (slots + (n + 4)) (mkF K.m (pc + 2) Ls (.ref a :: st))) :
    WP l Z EL it n0 own h0 ws0 Q K h ws cells slots (mkF K.m pc Ls st) := by
  intro vm T locs P
  obtain ⟨X, eT, ⟨k, hS, hk⟩, hZ, hown, H, N, Kp, O, Ow⟩ := P
  obtain ⟨a, T', h', k1, b, kc, X', e', E, hS', hk', hZ', hown', F1, F2, F3, F4, la, lb, hC, -, hne, go⟩ := ldcCH X C.exec hZ hown w wS eT hS hk C.ew hmem H.1 ht hz hl (g := mkF K.m pc Ls st) rfl (hb C.bytes hd) hn hbig (by rw [C.room]; exact hc) (by rw [C.room]; exact hl')
  have Sf : ∀ x ∈ ws, Safe Z EL T'.vm h' x := fun x hx => hC.safe (Ow x hx).2.1 (Ow x hx).2.2.1
  exact Goes.of go (r h' a b E.1 (keep_ext E) la lb (fun x hx => hne x (Sf x hx)) F1 F2 F3 (Ary.of_arv F4 hl) T'.vm T' locs ⟨X', e', ⟨k1, hS', hk'⟩, hZ', hown', H.trans (CHx.of hit hC), N, Kp.ext E, O.ext E, fun x hx => ⟨(Ow x hx).1, Nat.lt_of_lt_of_le (Ow x hx).2.1 E.1, Sf x hx, (Ow x hx).2.2.2⟩⟩)
/-- ldc of a String constant, unread -/
theorem Ok.ldcO (C : Ok l Z a0 EL it n0 own h0 ws0 Q code maxL ret nm rm K) (hit : it) {text : String} {index : Nat} (n : Nat) (w : (Jvm.Cond.stringLink own index text).before a0 Z = true) (wS : ∀ a ∈ Bundle.stringAtoms, a.before a0 Z = true) (hn : 4 * text.toList.length ≤ n) (hbig : n ≤ 536870912) (hd : decode code pc = .ok (.ldc index, 2)) (hc : cells + 2 ≤ rm.cells) (hl' : slots + (n + 4) ≤ rm.slots)
    (r : ∀ (h' : Heap) (a : Nat), h.size ≤ h'.size → Keep h h' [] → WP l Z EL it n0 own h0 ws0 Q K h' ws (cells + 2) (slots + (n + 4)) (mkF K.m (pc + 2) Ls (.ref a :: st))) : WP l Z EL it n0 own h0 ws0 Q K h ws cells slots (mkF K.m pc Ls st) := by
  intro vm T locs P
  obtain ⟨X, eT, ⟨k, hS, hk⟩, hZ, hown, H, N, Kp, O, Ow⟩ := P
  obtain ⟨a, T', h', k1, X', e', E, hS', hk', hZ', hown', hC, -, go⟩ := ldcOH X C.exec hZ hown w wS eT hS hk C.ew H.1 (g := mkF K.m pc Ls st) rfl (hb C.bytes hd) hn hbig (by rw [C.room]; exact hc) (by rw [C.room]; exact hl')
  exact Goes.of go (r h' a E.1 (keep_ext E) T'.vm T' locs ⟨X', e', ⟨k1, hS', hk'⟩, hZ', hown', H.trans (CHx.of hit hC), N, Kp.ext E, O.ext E, fun x hx => ⟨(Ow x hx).1, Nat.lt_of_lt_of_le (Ow x hx).2.1 E.1, hC.safe (Ow x hx).2.1 (Ow x hx).2.2.1, (Ow x hx).2.2.2⟩⟩)
end Calls
section Laws
variable {l : Launch} {Z : State} {a0 : Array Value} {EL : List (String × Nat)} {it : Prop} {n0 : Nat} {Q : Option Value → Heap → Prop} {h : Heap} {ws : List Addr}
/-- from the body to the law -/
theorem Met.of {y : MethodName} {bytes : ByteArray} {maxL : Nat} {ret : Option FieldType} {rm : Room} {cs : List Jvm.Cond} {as : Array Value} {own nm : String} (Ls : Array Slot) (hEL : EW Z a0 EL) (ho : y.cls = own) (hn : y.name = nm) (pn : plainFor y = true) (ef : ∀ m, entryFrame m as maxL = mkF m 0 Ls [])
    (body : ∀ K : Ctx, Ok l Z a0 EL it n0 own h ws Q bytes maxL ret nm rm K → WP l Z EL it n0 own h ws Q K h ws 0 0 (mkF K.m 0 Ls [])) : Met l Z EL it n0 y bytes maxL ret rm cs as h ws Q := by
  subst ho hn
  refine MetFree.of_bodySF pn hisR ?_
  intro p e s m args below meth c s₁ Bd hml hP hK
  obtain ⟨rfl, hZ, hh, H, O, hs⟩ := hP
  subst hh
  have X : Stand p l e rm s m args below meth c s₁ [] 0 0 := Stand.of_body Bd
  have hown : s.vm.findClass y.cls = some m.cls := findClass_of_methodNamed Bd.named
  have eh : s₁.heap = s.heap := by rw [Bd.state]; rfl
  obtain ⟨s₂, o, h1, h2, h3, h4⟩ := body (p, e, rm, s, m, args, below, meth, c) ⟨Bd.exec, hEL, Bd.bytes, hml, Bd.returns, (name_of_methodNamed Bd.named Bd.method).1, Bd.notSynchronized, rfl⟩ s.vm s₁ []
    ⟨X, eh, ⟨s.heap.size, (State.WarmedH.refl s).since _, Nat.le_refl _⟩, hZ, hown, CHx.refl H, Fr.nil _, Keep.refl _ _, O, fun x hx => ⟨(hs x hx).1, (hs x hx).2.1, (hs x hx).2.2, Or.inl hx⟩⟩
  exact ⟨s₂, o, castTop (ef m) h1, h2, h3, h4⟩
/-- from the body's law to a caller's -/
theorem Met.con {y : MethodName} {bytes : ByteArray} {maxL : Nat} {ret : Option FieldType} {rm : Room} {as : Array Value} (M : Met l Z EL it n0 y bytes maxL ret rm [] as h ws Q) (wc : (Jvm.Cond.code y bytes maxL ret).before a0 Z = true) (wz : (Jvm.Cond.initialized y.cls).before a0 Z = true) {fr lo cl sl : Nat} (e1 : rm.frames + 1 = fr) (e2 : maxL + 11 + rm.locals = lo) (e3 : rm.cells = cl) (e4 : rm.slots = sl) :
    Con l Z a0 EL it n0 y fr lo cl sl as h ws Q := by
  subst e1 e2 e3 e4
  intro R p e below s args len W vm0 hZ hEL H O hs hf hl
  exact BackS.of_freeW (bytes := bytes) (maxL := maxL) (ret := ret) (E := fun _ first o t L k n => k = rm.cells ∧ n = rm.slots ∧ (∃ v, o = .returned v ∧ Q v t.heap ∧ Keep h t.heap ws ∧ Fr n0 L) ∧ CHx it Z EL first.vm h t.vm t.heap) M hf (by show W + (maxL + 11) + rm.locals ≤ _; omega)
    (fun m meth c A a Y hp => by
      have hU : Z.Warmed39 A.U.vm := wtrans (s := s.setVm vm0) hZ Y.warmed
      exact ⟨by show (Jvm.Cond.and _ .tt).before a A.U = true; rw [Cond.before_and, mv hU wc]; rfl, mv hU wc, mv hU wz, hp.2.2.1, hp.2.2.2⟩)
    (fun m meth c A a g mk Y hp => by
      have q : CHx it Z EL vm0 h A.U.vm h := CHx.still (CHv.at Y hZ hEL H)
      exact ⟨hp.1, wtrans (s := s.setVm vm0) hZ Y.warmed, hp.2.1, q.1, O, fun x hx => ⟨(hs x hx).1, (hs x hx).2.1, q.safe (hs x hx).2.1 (hs x hx).2.2⟩⟩)
    (fun _ _ _ _ _ _ _ _ _ => trivial)
    (fun _ _ _ _ ⟨v, L, h1, h2, h3, h4⟩ => ⟨L, _, _, h4, rfl, rfl, ⟨v, h1, h2⟩, h3⟩)
    (fun m meth c A a g mk v t L k n Y hp _ _ ⟨e1, e2, ⟨v', e3, e4⟩, e5⟩ => by
      cases e3; subst e1 e2
      exact ⟨L, e4, rfl, rfl, rfl, (CHx.still (CHv.at Y hZ hEL H)).trans e5⟩)
theorem Con.wk {y : MethodName} {fr lo cl sl : Nat} {as : Array Value} {Q' : Option Value → Heap → Prop} (M : Con l Z a0 EL it n0 y fr lo cl sl as h ws Q) (hq : ∀ v h', Keep h h' ws → Q v h' → Q' v h') : Con l Z a0 EL it n0 y fr lo cl sl as h ws Q' := by
  intro R p e below s args len W vm0 hZ hEL H O hs hf hl m meth c A g ig mk a X hg hsize hdg hW hn hp
  obtain ⟨v, B, X', hS, hgr, ⟨L, ⟨q1, q2⟩, q3⟩, hst⟩ := M R p e below s args len W vm0 hZ hEL H O hs hf hl m meth c A g ig mk a X hg hsize hdg hW hn hp
  exact ⟨v, B, X', hS, hgr, ⟨L, ⟨hq _ _ q2.1 q1, q2⟩, q3⟩, hst⟩
end Laws
end Own
end Jvm.Pilot.@@N@@
namespace Jvm.Pilot.@@N@@
namespace Own
open Jvm Jvm.ClassFile Sem Op Lib Jvm.Free Jvm.Stand Jvm.LawKit Jvm.RoadKit Bundle
/-! Strings -/
theorem neA {a b : Nat} (q : @LT.lt Nat _ a b ∨ @LT.lt Nat _ b a) : a ≠ b := fun e => by subst e; exact q.elim (Nat.lt_irrefl _) (Nat.lt_irrefl _)
abbrev ST : String := "java/lang/String"
def lo8 (x : Int32) : Int32 := x.toInt8.toInt32
def hi8 (x : Int32) : Int32 := lo8 (x >>> ((8 : Int32) &&& 31))
def wide : List Int32 → List Value
  | [] => []
  | c :: cs => .int (lo8 c) :: .int (hi8 c) :: wide cs
def Codes (cs : List Int32) (cd : Int32) (vs : List Value) : Prop :=
  (cd = 0 ∧ vs = cs.map (fun c => Value.int (lo8 c)) ∧ ∀ c ∈ cs, 0 ≤ c.toInt ∧ c.toInt < 256) ∨ (cd = 1 ∧ vs = wide cs ∧ (∀ c ∈ cs, 0 ≤ c.toInt ∧ c.toInt < 65536) ∧ ∃ c ∈ cs, 255 < c.toInt)
/-- at x stands a String that spells cs; it and its bytes lie below N -/
def Str (Z : State) (h : Heap) (N : Nat) (x : Nat) (cs : List Int32) : Prop :=
  Exa Z h x ST ∧ x < N ∧ N ≤ h.size ∧ ∃ (t : Nat) (cd : Int32) (vs : List Value), t < N ∧ Fld Z h x ST "value" "[B" (.ref t) ∧ Fld Z h x ST "coder" "B" (.int cd) ∧ Ary Z h t .byte vs ∧ Codes cs cd vs
theorem exaLt {Z : State} {h : Heap} {x : Nat} {C : String} (E : Exa Z h x C) : x < h.size := E.lt
theorem fldLt {Z : State} {h : Heap} {x : Nat} {C n d : String} {v : Value} (E : Fld Z h x C n d v) : x < h.size := E.lt
theorem Str.keep {Z : State} {h h' : Heap} {N : Nat} {x : Nat} {cs : List Int32} {us : List Addr} (S : Str Z h N x cs) (Kp : Keep h h' us) (q : ∀ w ∈ us, N ≤ w) : Str Z h' N x cs := by
  obtain ⟨E, hx, hN, t, cd, vs, ht, F1, F2, A, c⟩ := S
  have nx : ∀ z, z < N → z ∉ us := fun z hz hm => by have := q z hm; omega
  exact ⟨E.keep Kp, hx, Nat.le_trans hN Kp.1, t, cd, vs, ht, F1.keep Kp (nx x hx), F2.keep Kp (nx x hx), A.keep Kp (nx t ht), c⟩
theorem Str.keepO {Z : State} {a0 : Array Value} {h h' : Heap} {N : Nat} {x a k : Nat} {C : String} {cs : List Int32} (S : Str Z h N x cs) (E : Exa Z h a C) (wi : (Jvm.Cond.instantiable C k).before a0 Z = true) (hx : x ≠ a) (Kp : Keep h h' [a]) : Str Z h' N x cs := by
  obtain ⟨Ex, hxN, hN, t, cd, vs, ht, F1, F2, A, c⟩ := S
  have nx : x ∉ [a] := fun q => hx (List.mem_singleton.mp q)
  have nt : t ∉ [a] := fun q => by
    obtain ⟨cc, A1, -⟩ := A
    exact RoadKit.ne_arr E wi A1 (List.mem_singleton.mp q).symm
  exact ⟨Ex.keep Kp, hxN, Nat.le_trans hN Kp.1, t, cd, vs, ht, F1.keep Kp nx, F2.keep Kp nx, A.keep Kp nt, c⟩
theorem Str.exa {Z : State} {h : Heap} {N : Nat} {x : Nat} {cs : List Int32} (S : Str Z h N x cs) : Exa Z h x ST := S.1
theorem Str.lt {Z : State} {h : Heap} {N : Nat} {x : Nat} {cs : List Int32} (S : Str Z h N x cs) : x < N ∧ N ≤ h.size := ⟨S.2.1, S.2.2.1⟩
theorem ord_of {s : State} {args : Array Value} {t : Term} {x : Nat} {C n d : String} {k : Int32} (ev : t.eval args s none [] s = some (.ref x)) (h : (Jvm.Cond.eq (.field t C n d) (.int k)).value args s none s [] = some true) : s.fieldOf? x C n d = some (.int k) := by
  have q := eqv_i (Term.int_eval k) h
  rwa [fld_at ev] at q
/-! numbers -/
theorem and_chr (x : Int32) : 0 ≤ ((x &&& 255).toUInt32.toUInt16.toUInt32.toInt32).toInt ∧ ((x &&& 255).toUInt32.toUInt16.toUInt32.toInt32).toInt < 256 := by
  have q := c_and x 255 (by decide)
  have e : (255 : Int32).toInt = 255 := by decide
  rw [i2c_id (by omega) (by omega)]
  omega
theorem and_pos (x : Int32) : 0 ≤ (x &&& 2147483647).toInt := (c_and x 2147483647 (by decide)).1
theorem rem_pos {x y : Int32} (k : Int) (hx : 0 ≤ x.toInt) (hy : y.toInt = k) (hk : 0 < k) : 0 ≤ (x % y).toInt ∧ (x % y).toInt < k ∧ (x % y).toInt = x.toInt % k := by
  have q := (c_irem x y k hy).1 hx
  have := Int.emod_nonneg x.toInt (show k ≠ 0 by omega)
  have := Int.emod_lt_of_pos x.toInt hk
  omega
theorem Ary.int {Z : State} {h : Heap} {a : Nat} {vs : List Value} {k : Nat} (A : Ary Z h a .byte vs) (hk : k < vs.length) : ∃ x : Int32, vs[k]? = some (.int x) := by
  obtain ⟨c, -, -, -, f⟩ := A
  have q := f vs[k] (List.getElem_mem hk)
  obtain ⟨x, hx⟩ := fit_I q (by simp)
  exact ⟨x, by rw [List.getElem?_eq_getElem hk, hx]⟩
theorem take_eq_succ {α : Type} {vs us : List α} {k : Nat} {x : α} (q : vs.take k = us.take k) (h1 : vs[k]? = some x) (h2 : us[k]? = some x) : vs.take (k + 1) = us.take (k + 1) := by
  rw [List.take_add_one, List.take_add_one, q, h1, h2]
theorem lo8_inj {x y : Int32} (hx : 0 ≤ x.toInt ∧ x.toInt < 256) (hy : 0 ≤ y.toInt ∧ y.toInt < 256) (e : lo8 x = lo8 y) : x = y := by
  have q1 := c_i2b x
  have q2 := c_i2b y
  have e' : x.toInt8.toInt32.toInt = y.toInt8.toInt32.toInt := by rw [show x.toInt8.toInt32 = y.toInt8.toInt32 from e]
  apply Int32.toInt_inj.mp
  omega
theorem map_lo8_inj : ∀ {cs ds : List Int32}, (∀ c ∈ cs, 0 ≤ c.toInt ∧ c.toInt < 256) → (∀ c ∈ ds, 0 ≤ c.toInt ∧ c.toInt < 256) → cs.map (fun c => Value.int (lo8 c)) = ds.map (fun c => Value.int (lo8 c)) → cs = ds
  | [], [], _, _, _ => rfl
  | [], _ :: _, _, _, h => by simp at h
  | _ :: _, [], _, _, h => by simp at h
  | c :: cs, d :: ds, hc, hd, h => by
    simp only [List.map_cons, List.cons.injEq, Value.int.injEq] at h
    rw [lo8_inj (hc c (by simp)) (hd d (by simp)) h.1, map_lo8_inj (fun z hz => hc z (by simp [hz])) (fun z hz => hd z (by simp [hz])) h.2]
/-- all its chars below 256 -/
def Lat (cs : List Int32) : Prop := ∀ c ∈ cs, c.toInt < 256
theorem Codes.lat {cs : List Int32} {cd : Int32} {vs : List Value} (c : Codes cs cd vs) (hl : Lat cs) : cd = 0 ∧ vs = cs.map (fun c => Value.int (lo8 c)) ∧ ∀ c ∈ cs, 0 ≤ c.toInt ∧ c.toInt < 256 := by
  rcases c with c | ⟨-, -, -, c, hc, q⟩
  · exact c
  · have := hl c hc; omega
theorem wide_len (cs : List Int32) : (wide cs).length = 2 * cs.length := by
  induction cs with
  | nil => rfl
  | cons c cs ih => simp [wide, ih]; omega
theorem Codes.cd {cs : List Int32} {cd : Int32} {vs : List Value} (c : Codes cs cd vs) : cd = 0 ∨ cd = 1 := c.imp (·.1) (·.1)
theorem Codes.len {cs : List Int32} {cd : Int32} {vs : List Value} (c : Codes cs cd vs) (hl : vs.length < 2147483648) : (Int32.ofNat vs.length) >>> (cd &&& 31) = Int32.ofNat cs.length := by
  apply Int32.toInt_inj.mp
  have e : (Int32.ofNat vs.length).toInt = vs.length := Int32.toInt_ofNat_small hl
  rcases c with ⟨rfl, rfl, -⟩ | ⟨rfl, rfl, -⟩
  · rw [c_ishr _ 0 0 (by decide), e]
    simp only [List.length_map] at hl ⊢
    rw [Int32.toInt_ofNat_small hl]; simp
  · rw [c_ishr _ 1 1 (by decide), e]
    rw [wide_len] at hl ⊢
    rw [Int32.toInt_ofNat_small (by omega)]; simp
theorem Codes.nil {cs : List Int32} {cd : Int32} {vs : List Value} (c : Codes cs cd vs) : cs = [] ↔ vs.length = 0 := by
  rcases c with ⟨-, rfl, -⟩ | ⟨-, rfl, -⟩
  · simp
  · rw [wide_len, ← List.length_eq_zero_iff]; omega
theorem lcmp_self (x : Int64) : (lcmpW x x).toInt = 0 := (c_lcmp x x).2.1 rfl
theorem shl1 {x : Int32} (h0 : 0 ≤ x.toInt) (h1 : 2 * x.toInt < 2147483648) : (x <<< ((1 : Int32) &&& 31)).toInt = 2 * x.toInt := by
  have q := c_ishl x 1 1 (by decide)
  have r := rng32 (x <<< ((1 : Int32) &&& 31))
  omega
theorem shr0 (x : Int32) : x >>> ((0 : Int32) &&& 31) = x := by
  apply Int32.toInt_inj.mp
  rw [c_ishr x 0 0 (by decide)]; simp
theorem lo8_and (x : Int32) : (lo8 x &&& 255).toInt = x.toInt % 256 := by
  have q := c_i2b x
  have e := c_mask (lo8 x) 255 8 (by decide) (by decide)
  have e2 : (lo8 x).toInt = x.toInt8.toInt32.toInt := rfl
  omega
theorem pair_chr {c : Int32} (h0 : 0 ≤ c.toInt) (h1 : c.toInt < 65536) : (((lo8 c &&& 255) <<< ((0 : Int32) &&& 31)) ||| ((hi8 c &&& 255) <<< ((8 : Int32) &&& 31))).toUInt32.toUInt16.toUInt32.toInt32 = c := by
  have e1 := lo8_and c
  have e2 := lo8_and (c >>> ((8 : Int32) &&& 31))
  have e3 := c_ishr c 8 8 (by decide)
  have e4 := c_ishl (lo8 c &&& 255) 0 0 (by decide)
  have e5 := c_ishl (hi8 c &&& 255) 8 8 (by decide)
  have r4 := rng32 ((lo8 c &&& 255) <<< ((0 : Int32) &&& 31))
  have r5 := rng32 ((hi8 c &&& 255) <<< ((8 : Int32) &&& 31))
  have e6 : (hi8 c &&& 255).toInt = (lo8 (c >>> ((8 : Int32) &&& 31)) &&& 255).toInt := rfl
  have eq : (((lo8 c &&& 255) <<< ((0 : Int32) &&& 31)) ||| ((hi8 c &&& 255) <<< ((8 : Int32) &&& 31))) = c := by
    rw [Int32.or_comm]
    apply Int32.toInt_inj.mp
    have q := c_or ((hi8 c &&& 255) <<< ((8 : Int32) &&& 31)) ((lo8 c &&& 255) <<< ((0 : Int32) &&& 31)) 8 (by decide) 256 (by decide) (by omega) (by omega) (by omega)
    have r := rng32 (((hi8 c &&& 255) <<< ((8 : Int32) &&& 31)) ||| ((lo8 c &&& 255) <<< ((0 : Int32) &&& 31)))
    omega
  rw [eq, i2c_id h0 h1]
theorem wide_get : ∀ {cs : List Int32} {k : Nat} {c : Int32}, cs[k]? = some c → (wide cs)[2 * k]? = some (.int (lo8 c)) ∧ (wide cs)[2 * k + 1]? = some (.int (hi8 c))
  | [], k, c, h => by simp at h
  | d :: cs, 0, c, h => by
    simp at h; subst h; exact ⟨rfl, rfl⟩
  | d :: cs, k + 1, c, h => by
    have q := wide_get (cs := cs) (k := k) (c := c) (by simpa using h)
    have e : 2 * (k + 1) = 2 * k + 1 + 1 := by omega
    rw [e]
    simpa [wide] using q
theorem wide_app (cs ds : List Int32) : wide (cs ++ ds) = wide cs ++ wide ds := by
  induction cs with
  | nil => rfl
  | cons c cs ih => simp [wide, ih]
theorem wide_step {cs : List Int32} {k j : Nat} {c : Int32} (hc : cs[k]? = some c) : ((wide (cs.take k) ++ List.replicate (2 * (j + 1)) (Value.int 0)).set (2 * k) (.int (lo8 c))).set (2 * k + 1) (.int (hi8 c)) = wide (cs.take (k + 1)) ++ List.replicate (2 * j) (.int 0) := by
  have hk : k < cs.length := (List.getElem?_eq_some_iff.mp hc).1
  have e : cs.take (k + 1) = cs.take k ++ [c] := by rw [List.take_add_one, hc]; rfl
  have hl : (wide (cs.take k)).length = 2 * k := by rw [wide_len, List.length_take, Nat.min_eq_left (Nat.le_of_lt hk)]
  rw [e, wide_app, show 2 * (j + 1) = (2 * j + 1) + 1 by omega]
  rw [List.set_append_right _ _ (by omega), hl, List.set_append_right _ _ (by omega), hl]
  simp [List.replicate_succ, wide, show 2 * k + 1 - 2 * k = 1 by omega]
theorem take_all {cs : List Int32} {k : Nat} {c : Int32} {b : Int} (h : ∀ z ∈ cs.take k, z.toInt < b) (hc : cs[k]? = some c) (hb : c.toInt < b) : ∀ z ∈ cs.take (k + 1), z.toInt < b := by
  intro z hz
  rw [List.take_add_one, hc] at hz
  rcases List.mem_append.mp hz with hz | hz
  · exact h z hz
  · cases List.mem_singleton.mp (show z ∈ [c] from hz); exact hb
theorem cfal_eq {cs : List Int32} {cd n : Int32} {vs : List Value} (c : Codes cs cd vs) (hn : n.toInt = cs.length) (h0 : 0 < n.toInt) (hl : vs.length < 2147483648) : (((n - Int32.ofNat vs.length).toUInt32 >>> ((31 : Int32) &&& 31).toUInt32).toInt32).toInt8.toInt32 = cd := by
  have em : (Int32.ofNat vs.length).toInt = vs.length := Int32.toInt_ofNat_small hl
  have e1 := c_isub n (Int32.ofNat vs.length)
  have e2 := c_iushr (n - Int32.ofNat vs.length) 31 31 (by decide) (by decide)
  have r1 := rng32 (n - Int32.ofNat vs.length)
  have e3 := c_i2b ((n - Int32.ofNat vs.length).toUInt32 >>> ((31 : Int32) &&& 31).toUInt32).toInt32
  apply Int32.toInt_inj.mp
  rcases c with ⟨rfl, rfl, -⟩ | ⟨rfl, rfl, -⟩
  · rw [List.length_map] at *
    have k0 : (0 : Int32).toInt = 0 := rfl
    omega
  · rw [wide_len] at *
    have k1 : (1 : Int32).toInt = 1 := rfl
    omega
theorem Codes.wid {cs : List Int32} {cd : Int32} {vs : List Value} (c : Codes cs cd vs) (h : cd = 1) : vs = wide cs ∧ ∀ c ∈ cs, 0 ≤ c.toInt ∧ c.toInt < 65536 := by
  rcases c with c | c
  · rw [c.1] at h; exact absurd h (by decide)
  · exact ⟨c.2.1, c.2.2.1⟩
theorem Codes.lo {cs : List Int32} {cd : Int32} {vs : List Value} (c : Codes cs cd vs) (h : cd = 0) : vs = cs.map (fun c => Value.int (lo8 c)) ∧ ∀ c ∈ cs, 0 ≤ c.toInt ∧ c.toInt < 256 := by
  rcases c with c | c
  · exact ⟨c.2.1, c.2.2⟩
  · rw [c.1] at h; exact absurd h (by decide)
theorem Codes.bnd {cs : List Int32} {cd : Int32} {vs : List Value} (c : Codes cs cd vs) : ∀ c ∈ cs, 0 ≤ c.toInt ∧ c.toInt < 65536 := by
  rcases c with c | c
  · intro z hz
    have := c.2.2 z hz
    omega
  · exact c.2.2.1
theorem sub_int {x y : Int32} (h1 : -2147483648 ≤ x.toInt - y.toInt) (h2 : x.toInt - y.toInt < 2147483648) : (x - y).toInt = x.toInt - y.toInt := by
  have q := c_isub x y
  have r := rng32 (x - y)
  omega
theorem add_int {x y : Int32} (h1 : -2147483648 ≤ x.toInt + y.toInt) (h2 : x.toInt + y.toInt < 2147483648) : (x + y).toInt = x.toInt + y.toInt := by
  have q := c_iadd x y
  have r := rng32 (x + y)
  omega
theorem nchar {x : Int32} (h0 : 0 ≤ x.toInt) (h1 : x.toInt < 65536) : narrow .char (.int x) = .int x := by
  show Value.int (nar .char x) = _
  rw [nar_char h0 h1]
theorem ofNat_int {k : Nat} (h : k < 2147483648) : (Int32.ofNat k).toInt = k := Int32.toInt_ofNat_small h
theorem ofNat_succ (k : Nat) : Int32.ofNat k + (1 : Int32) = Int32.ofNat (k + 1) := by
  rw [show (1 : Int32) = Int32.ofNat 1 from rfl, ← Int32.ofNat_add]
theorem lo8_lo8 (x : Int32) : x.toInt8.toInt32.toInt8.toInt32 = lo8 x := by
  show (x.toInt8.toInt32.toInt8).toInt32 = x.toInt8.toInt32
  rw [Int8.toInt8_toInt32]
theorem fill_step {α β : Type} (f : α → β) (z : β) {cs : List α} {k j : Nat} {c : α} (hc : cs[k]? = some c) : ((cs.take k).map f ++ List.replicate (j + 1) z).set k (f c) = (cs.take (k + 1)).map f ++ List.replicate j z := by
  have hk : k < cs.length := (List.getElem?_eq_some_iff.mp hc).1
  have e : cs.take (k + 1) = cs.take k ++ [c] := by rw [List.take_add_one, hc]; rfl
  rw [e, List.map_append, List.set_append_right _ _ (by simp; omega)]
  simp [List.replicate_succ, Nat.min_eq_left (Nat.le_of_lt hk)]
/-! surrogates -/
abbrev Hi (c : Int32) : Prop := 55296 ≤ c.toInt ∧ c.toInt ≤ 56319
abbrev Lo (c : Int32) : Prop := 56320 ≤ c.toInt ∧ c.toInt ≤ 57343
/-- how many neighbours are a surrogate pair -/
def prs : List Int32 → Nat
  | [] => 0
  | [_] => 0
  | a :: b :: r => (if Hi a ∧ Lo b then 1 else 0) + prs (b :: r)
theorem prs_le : ∀ cs : List Int32, prs cs ≤ cs.length
  | [] => Nat.le_refl _
  | [_] => Nat.zero_le _
  | a :: b :: r => by
    have := prs_le (b :: r)
    simp only [prs, List.length_cons] at *
    split <;> omega
theorem prs_skip {b : Int32} (r : List Int32) (hb : ¬ Hi b) : prs (b :: r) = prs r := by
  cases r with
  | nil => rfl
  | cons c r => simp only [prs]; rw [if_neg (fun q => hb q.1)]; omega
theorem prs_drop_last {cs : List Int32} {k : Nat} (h : cs.length ≤ k + 1) : prs (cs.drop k) = 0 := by
  have hl : (cs.drop k).length ≤ 1 := by simp; omega
  match hd : cs.drop k, hl with
  | [], _ => rfl
  | [_], _ => rfl
theorem drop_two {cs : List Int32} {k : Nat} {c d : Int32} (hc : cs[k]? = some c) (hd : cs[k + 1]? = some d) : cs.drop k = c :: d :: cs.drop (k + 2) := by
  obtain ⟨h1, rfl⟩ := List.getElem?_eq_some_iff.mp hc
  obtain ⟨h2, rfl⟩ := List.getElem?_eq_some_iff.mp hd
  rw [List.drop_eq_getElem_cons h1, List.drop_eq_getElem_cons h2]
theorem prs_no {cs : List Int32} {k : Nat} {c d : Int32} (hc : cs[k]? = some c) (hd : cs[k + 1]? = some d) (hn : ¬ (Hi c ∧ Lo d)) : prs (cs.drop k) = prs (cs.drop (k + 1)) := by
  have e2 : cs.drop (k + 1) = d :: cs.drop (k + 2) := by
    obtain ⟨h2, rfl⟩ := List.getElem?_eq_some_iff.mp hd
    rw [List.drop_eq_getElem_cons h2]
  rw [drop_two hc hd, e2]
  simp only [prs]
  rw [if_neg hn]; omega
theorem prs_yes {cs : List Int32} {k : Nat} {c d : Int32} (hc : cs[k]? = some c) (hd : cs[k + 1]? = some d) (hn : Hi c ∧ Lo d) : prs (cs.drop k) = 1 + prs (cs.drop (k + 2)) := by
  rw [drop_two hc hd]
  simp only [prs]
  rw [if_pos hn, prs_skip _ (fun q => by have := hn.2; omega)]
theorem prs_lat {cs : List Int32} (h : ∀ c ∈ cs, c.toInt < 256) : prs cs = 0 := by
  induction cs with
  | nil => rfl
  | cons a r ih => rw [prs_skip r (fun q => by have := h a (by simp); omega)]; exact ih fun c hc => h c (by simp [hc])
end Own
end Jvm.Pilot.@@N@@
namespace Jvm.Pilot.@@N@@
open Jvm Jvm.ClassFile Sem Op Lib Jvm.Free Jvm.Stand Jvm.LawKit Jvm.RoadKit Bundle Jvm.Pilot.@@N@@.Jvm.D Jvm.Pilot.@@N@@.Own
abbrev EL : List (String × Nat) := []
def Base (Z : State) (a0 : Array Value)  : Prop := (∀ d ∈ tables_1, d.before a0 Z = true) ∧ (∃ zc : Int32, Sta Z Z.heap "java/lang/String" "COMPACT_STRINGS" "Z" (.int zc) ∧ ¬ zc = 0) ∧ (∃ fm : Value, Sta Z Z.heap "jdk/internal/util/Preconditions" "SIOOBE_FORMATTER" "Ljava/util/function/BiFunction;" fm ∧ fm.isRef = true)
variable {l : Launch} {Z : State} {a0 : Array Value} {it : Prop} {n0 : Nat}
theorem ew  (B : Base Z a0) : EW Z a0 EL := EW.nil
theorem sA_mem : ∀ d ∈ Bundle.stringAtoms, d ∈ tables_1 := by decide +kernel
theorem sA  (B : Base Z a0) : ∀ d ∈ Bundle.stringAtoms, d.before a0 Z = true := fun d hd => B.1 d (sA_mem d hd)
theorem d0_0 : decode jdk_52_method_15_code 0 = .ok (.iload_n 1, 1) := by decide +kernel
theorem d0_1 : decode jdk_52_method_15_code 1 = .ok (.aload_n 0, 1) := by decide +kernel
theorem d0_2 : decode jdk_52_method_15_code 2 = .ok (.arraylength, 1) := by decide +kernel
theorem d0_3 : decode jdk_52_method_15_code 3 = .ok (.isub, 1) := by decide +kernel
theorem d0_4 : decode jdk_52_method_15_code 4 = .ok (.bipush 31, 2) := by decide +kernel
theorem d0_6 : decode jdk_52_method_15_code 6 = .ok (.iushr, 1) := by decide +kernel
theorem d0_7 : decode jdk_52_method_15_code 7 = .ok (.i2b, 1) := by decide +kernel
theorem d0_8 : decode jdk_52_method_15_code 8 = .ok (.ireturn, 1) := by decide +kernel
theorem pn_java_lang_StringUTF16 : plainName "java/lang/StringUTF16" = true := by first | (simp [plainName, overriddenIn]; done) | decide +kernel
theorem d1_0 : decode jdk_52_method_21_code 0 = .ok (.iconst 0, 1) := by decide +kernel
theorem d1_1 : decode jdk_52_method_21_code 1 = .ok (.istore 5, 2) := by decide +kernel
theorem d1_3 : decode jdk_52_method_21_code 3 = .ok (.iload 5, 2) := by decide +kernel
theorem d1_5 : decode jdk_52_method_21_code 5 = .ok (.iload 4, 2) := by decide +kernel
theorem d1_7 : decode jdk_52_method_21_code 7 = .ok (.if_icmp .ge 37, 3) := by decide +kernel
theorem d1_44 : decode jdk_52_method_21_code 44 = .ok (.iload 4, 2) := by decide +kernel
theorem d1_46 : decode jdk_52_method_21_code 46 = .ok (.ireturn, 1) := by decide +kernel
theorem d1_10 : decode jdk_52_method_21_code 10 = .ok (.aload_n 0, 1) := by decide +kernel
theorem d1_11 : decode jdk_52_method_21_code 11 = .ok (.iload_n 1, 1) := by decide +kernel
theorem d1_12 : decode jdk_52_method_21_code 12 = .ok (.caload, 1) := by decide +kernel
theorem d1_13 : decode jdk_52_method_21_code 13 = .ok (.istore 6, 2) := by decide +kernel
theorem d1_15 : decode jdk_52_method_21_code 15 = .ok (.iload 6, 2) := by decide +kernel
theorem d1_17 : decode jdk_52_method_21_code 17 = .ok (.sipush 255, 3) := by decide +kernel
theorem d1_20 : decode jdk_52_method_21_code 20 = .ok (.if_icmp .le 6, 3) := by decide +kernel
theorem d1_26 : decode jdk_52_method_21_code 26 = .ok (.aload_n 2, 1) := by decide +kernel
theorem d1_27 : decode jdk_52_method_21_code 27 = .ok (.iload_n 3, 1) := by decide +kernel
theorem d1_28 : decode jdk_52_method_21_code 28 = .ok (.iload 6, 2) := by decide +kernel
theorem d1_30 : decode jdk_52_method_21_code 30 = .ok (.i2b, 1) := by decide +kernel
theorem d1_31 : decode jdk_52_method_21_code 31 = .ok (.bastore, 1) := by decide +kernel
theorem d1_32 : decode jdk_52_method_21_code 32 = .ok (.iinc 1 1, 3) := by decide +kernel
theorem d1_35 : decode jdk_52_method_21_code 35 = .ok (.iinc 3 1, 3) := by decide +kernel
theorem d1_38 : decode jdk_52_method_21_code 38 = .ok (.iinc 5 1, 3) := by decide +kernel
theorem d1_41 : decode jdk_52_method_21_code 41 = .ok (.goto (-38), 3) := by decide +kernel
theorem d2_0 : decode jdk_52_method_16_code 0 = .ok (.iload_n 2, 1) := by decide +kernel
theorem d2_1 : decode jdk_52_method_16_code 1 = .ok (.newarray .byte, 2) := by decide +kernel
theorem d2_3 : decode jdk_52_method_16_code 3 = .ok (.astore_n 3, 1) := by decide +kernel
theorem d2_4 : decode jdk_52_method_16_code 4 = .ok (.aload_n 0, 1) := by decide +kernel
theorem d2_5 : decode jdk_52_method_16_code 5 = .ok (.iload_n 1, 1) := by decide +kernel
theorem d2_6 : decode jdk_52_method_16_code 6 = .ok (.aload_n 3, 1) := by decide +kernel
theorem d2_7 : decode jdk_52_method_16_code 7 = .ok (.iconst 0, 1) := by decide +kernel
theorem d2_8 : decode jdk_52_method_16_code 8 = .ok (.iload_n 2, 1) := by decide +kernel
theorem d2_9 : decode jdk_52_method_16_code 9 = .ok (.invokestatic 115, 3) := by decide +kernel
theorem pd__28__5b_CI_5b_BII_29_I : parseMethodDescriptor "([CI[BII)I" = some ⟨[(.array .char), .int, (.array .byte), .int, .int], some .int⟩ := by decide +kernel
theorem d2_12 : decode jdk_52_method_16_code 12 = .ok (.istore 4, 2) := by decide +kernel
theorem d2_14 : decode jdk_52_method_16_code 14 = .ok (.iload 4, 2) := by decide +kernel
theorem d2_16 : decode jdk_52_method_16_code 16 = .ok (.iload_n 2, 1) := by decide +kernel
theorem d2_17 : decode jdk_52_method_16_code 17 = .ok (.if_icmp .eq 40, 3) := by decide +kernel
theorem d2_57 : decode jdk_52_method_16_code 57 = .ok (.aload_n 3, 1) := by decide +kernel
theorem d2_58 : decode jdk_52_method_16_code 58 = .ok (.areturn, 1) := by decide +kernel
theorem d3_0 : decode jdk_42_method_149_code 0 = .ok (.aload_n 0, 1) := by decide +kernel
theorem d3_1 : decode jdk_42_method_149_code 1 = .ok (.invokespecial 1, 3) := by decide +kernel
theorem d3_4 : decode jdk_42_method_149_code 4 = .ok (.iload_n 3, 1) := by decide +kernel
theorem d3_5 : decode jdk_42_method_149_code 5 = .ok (.ifCond .ne 22, 3) := by decide +kernel
theorem d3_27 : decode jdk_42_method_149_code 27 = .ok (.getstatic 38, 3) := by decide +kernel
theorem d3_30 : decode jdk_42_method_149_code 30 = .ok (.ifCond .eq 28, 3) := by decide +kernel
theorem d3_33 : decode jdk_42_method_149_code 33 = .ok (.aload_n 1, 1) := by decide +kernel
theorem d3_34 : decode jdk_42_method_149_code 34 = .ok (.iload_n 2, 1) := by decide +kernel
theorem d3_35 : decode jdk_42_method_149_code 35 = .ok (.iload_n 3, 1) := by decide +kernel
theorem d3_36 : decode jdk_42_method_149_code 36 = .ok (.invokestatic 177, 3) := by decide +kernel
theorem pd__28__5b_CII_29__5b_B : parseMethodDescriptor "([CII)[B" = some ⟨[(.array .char), .int, .int], some (.array .byte)⟩ := by decide +kernel
theorem d3_39 : decode jdk_42_method_149_code 39 = .ok (.astore 5, 2) := by decide +kernel
theorem d3_41 : decode jdk_42_method_149_code 41 = .ok (.aload_n 0, 1) := by decide +kernel
theorem d3_42 : decode jdk_42_method_149_code 42 = .ok (.aload 5, 2) := by decide +kernel
theorem d3_44 : decode jdk_42_method_149_code 44 = .ok (.iload_n 3, 1) := by decide +kernel
theorem d3_45 : decode jdk_42_method_149_code 45 = .ok (.invokestatic 47, 3) := by decide +kernel
theorem pd__28__5b_BI_29_B : parseMethodDescriptor "([BI)B" = some ⟨[(.array .byte), .int], some .byte⟩ := by decide +kernel
theorem d3_48 : decode jdk_42_method_149_code 48 = .ok (.putfield 15, 3) := by decide +kernel
theorem d3_51 : decode jdk_42_method_149_code 51 = .ok (.aload_n 0, 1) := by decide +kernel
theorem d3_52 : decode jdk_42_method_149_code 52 = .ok (.aload 5, 2) := by decide +kernel
theorem d3_54 : decode jdk_42_method_149_code 54 = .ok (.putfield 9, 3) := by decide +kernel
theorem d3_57 : decode jdk_42_method_149_code 57 = .ok (.return_, 1) := by decide +kernel
theorem pn_java_lang_String : plainName "java/lang/String" = true := by first | (simp [plainName, overriddenIn]; done) | decide +kernel
theorem d4_0 : decode jdk_42_method_3_code 0 = .ok (.aload_n 0, 1) := by decide +kernel
theorem d4_1 : decode jdk_42_method_3_code 1 = .ok (.aload_n 1, 1) := by decide +kernel
theorem d4_2 : decode jdk_42_method_3_code 2 = .ok (.iconst 0, 1) := by decide +kernel
theorem d4_3 : decode jdk_42_method_3_code 3 = .ok (.aload_n 1, 1) := by decide +kernel
theorem d4_4 : decode jdk_42_method_3_code 4 = .ok (.arraylength, 1) := by decide +kernel
theorem d4_5 : decode jdk_42_method_3_code 5 = .ok (.aconst_null, 1) := by decide +kernel
theorem d4_6 : decode jdk_42_method_3_code 6 = .ok (.invokespecial 27, 3) := by decide +kernel
theorem pd__28__5b_CIILjava_2f_lang_2f_Void_3b__29_V : parseMethodDescriptor "([CIILjava/lang/Void;)V" = some ⟨[(.array .char), .int, .int, (.object "java/lang/Void")], none⟩ := by decide +kernel
theorem d4_9 : decode jdk_42_method_3_code 9 = .ok (.return_, 1) := by decide +kernel
theorem d5_0 : decode jdk_42_method_152_code 0 = .ok (.getstatic 38, 3) := by decide +kernel
theorem d5_3 : decode jdk_42_method_152_code 3 = .ok (.ifCond .eq 10, 3) := by decide +kernel
theorem d5_6 : decode jdk_42_method_152_code 6 = .ok (.aload_n 0, 1) := by decide +kernel
theorem d5_7 : decode jdk_42_method_152_code 7 = .ok (.getfield 15, 3) := by decide +kernel
theorem d5_10 : decode jdk_42_method_152_code 10 = .ok (.goto 4, 3) := by decide +kernel
theorem d5_14 : decode jdk_42_method_152_code 14 = .ok (.ireturn, 1) := by decide +kernel
theorem d6_0 : decode jdk_42_method_54_code 0 = .ok (.aload_n 0, 1) := by decide +kernel
theorem d6_1 : decode jdk_42_method_54_code 1 = .ok (.getfield 9, 3) := by decide +kernel
theorem d6_4 : decode jdk_42_method_54_code 4 = .ok (.arraylength, 1) := by decide +kernel
theorem d6_5 : decode jdk_42_method_54_code 5 = .ok (.aload_n 0, 1) := by decide +kernel
theorem d6_6 : decode jdk_42_method_54_code 6 = .ok (.invokevirtual 335, 3) := by decide +kernel
theorem pd__28__29_B : parseMethodDescriptor "()B" = some ⟨[], some .byte⟩ := by decide +kernel
theorem d6_9 : decode jdk_42_method_54_code 9 = .ok (.ishr, 1) := by decide +kernel
theorem d6_10 : decode jdk_42_method_54_code 10 = .ok (.ireturn, 1) := by decide +kernel
theorem d7_0 : decode jdk_42_method_154_code 0 = .ok (.getstatic 38, 3) := by decide +kernel
theorem d7_3 : decode jdk_42_method_154_code 3 = .ok (.ifCond .eq 14, 3) := by decide +kernel
theorem d7_6 : decode jdk_42_method_154_code 6 = .ok (.aload_n 0, 1) := by decide +kernel
theorem d7_7 : decode jdk_42_method_154_code 7 = .ok (.getfield 15, 3) := by decide +kernel
theorem d7_10 : decode jdk_42_method_154_code 10 = .ok (.ifCond .ne 7, 3) := by decide +kernel
theorem d7_17 : decode jdk_42_method_154_code 17 = .ok (.iconst 0, 1) := by decide +kernel
theorem d7_18 : decode jdk_42_method_154_code 18 = .ok (.ireturn, 1) := by decide +kernel
theorem d7_13 : decode jdk_42_method_154_code 13 = .ok (.iconst 1, 1) := by decide +kernel
theorem d7_14 : decode jdk_42_method_154_code 14 = .ok (.goto 4, 3) := by decide +kernel
theorem d8_0 : decode jdk_42_method_55_code 0 = .ok (.aload_n 0, 1) := by decide +kernel
theorem d8_1 : decode jdk_42_method_55_code 1 = .ok (.getfield 9, 3) := by decide +kernel
theorem d8_4 : decode jdk_42_method_55_code 4 = .ok (.arraylength, 1) := by decide +kernel
theorem d8_5 : decode jdk_42_method_55_code 5 = .ok (.ifCond .ne 7, 3) := by decide +kernel
theorem d8_12 : decode jdk_42_method_55_code 12 = .ok (.iconst 0, 1) := by decide +kernel
theorem d8_13 : decode jdk_42_method_55_code 13 = .ok (.ireturn, 1) := by decide +kernel
theorem d8_8 : decode jdk_42_method_55_code 8 = .ok (.iconst 1, 1) := by decide +kernel
theorem d8_9 : decode jdk_42_method_55_code 9 = .ok (.goto 4, 3) := by decide +kernel
theorem d9_0 : decode jdk_41_method_11_code 0 = .ok (.iload_n 0, 1) := by decide +kernel
theorem d9_1 : decode jdk_41_method_11_code 1 = .ok (.ifCond .lt 8, 3) := by decide +kernel
theorem d9_4 : decode jdk_41_method_11_code 4 = .ok (.iload_n 0, 1) := by decide +kernel
theorem d9_5 : decode jdk_41_method_11_code 5 = .ok (.iload_n 1, 1) := by decide +kernel
theorem d9_6 : decode jdk_41_method_11_code 6 = .ok (.if_icmp .lt 10, 3) := by decide +kernel
theorem d9_16 : decode jdk_41_method_11_code 16 = .ok (.iload_n 0, 1) := by decide +kernel
theorem d9_17 : decode jdk_41_method_11_code 17 = .ok (.ireturn, 1) := by decide +kernel
theorem pn_jdk_internal_util_Preconditions : plainName "jdk/internal/util/Preconditions" = true := by first | (simp [plainName, overriddenIn]; done) | decide +kernel
theorem d10_0 : decode jdk_42_method_155_code 0 = .ok (.iload_n 0, 1) := by decide +kernel
theorem d10_1 : decode jdk_42_method_155_code 1 = .ok (.iload_n 1, 1) := by decide +kernel
theorem d10_2 : decode jdk_42_method_155_code 2 = .ok (.getstatic 1053, 3) := by decide +kernel
theorem pd__28_IILjava_2f_util_2f_function_2f_BiFunction_3b__29_I : parseMethodDescriptor "(IILjava/util/function/BiFunction;)I" = some ⟨[.int, .int, (.object "java/util/function/BiFunction")], some .int⟩ := by decide +kernel
theorem d10_5 : decode jdk_42_method_155_code 5 = .ok (.invokestatic 1059, 3) := by decide +kernel
theorem d10_8 : decode jdk_42_method_155_code 8 = .ok (.pop, 1) := by decide +kernel
theorem d10_9 : decode jdk_42_method_155_code 9 = .ok (.return_, 1) := by decide +kernel
theorem d11_0 : decode jdk_43_method_2_code 0 = .ok (.iload_n 1, 1) := by decide +kernel
theorem d11_1 : decode jdk_43_method_2_code 1 = .ok (.aload_n 0, 1) := by decide +kernel
theorem d11_2 : decode jdk_43_method_2_code 2 = .ok (.arraylength, 1) := by decide +kernel
theorem pd__28_II_29_V : parseMethodDescriptor "(II)V" = some ⟨[.int, .int], none⟩ := by decide +kernel
theorem d11_3 : decode jdk_43_method_2_code 3 = .ok (.invokestatic 9, 3) := by decide +kernel
theorem d11_6 : decode jdk_43_method_2_code 6 = .ok (.aload_n 0, 1) := by decide +kernel
theorem d11_7 : decode jdk_43_method_2_code 7 = .ok (.iload_n 1, 1) := by decide +kernel
theorem d11_8 : decode jdk_43_method_2_code 8 = .ok (.baload, 1) := by decide +kernel
theorem d11_9 : decode jdk_43_method_2_code 9 = .ok (.sipush 255, 3) := by decide +kernel
theorem d11_12 : decode jdk_43_method_2_code 12 = .ok (.iand, 1) := by decide +kernel
theorem d11_13 : decode jdk_43_method_2_code 13 = .ok (.i2c, 1) := by decide +kernel
theorem d11_14 : decode jdk_43_method_2_code 14 = .ok (.ireturn, 1) := by decide +kernel
theorem pn_java_lang_StringLatin1 : plainName "java/lang/StringLatin1" = true := by first | (simp [plainName, overriddenIn]; done) | decide +kernel
theorem d12_0 : decode jdk_42_method_56_code 0 = .ok (.aload_n 0, 1) := by decide +kernel
theorem d12_1 : decode jdk_42_method_56_code 1 = .ok (.invokevirtual 492, 3) := by decide +kernel
theorem pd__28__29_Z : parseMethodDescriptor "()Z" = some ⟨[], some .boolean⟩ := by decide +kernel
theorem d12_4 : decode jdk_42_method_56_code 4 = .ok (.ifCond .eq 12, 3) := by decide +kernel
theorem d12_7 : decode jdk_42_method_56_code 7 = .ok (.aload_n 0, 1) := by decide +kernel
theorem d12_8 : decode jdk_42_method_56_code 8 = .ok (.getfield 9, 3) := by decide +kernel
theorem d12_11 : decode jdk_42_method_56_code 11 = .ok (.iload_n 1, 1) := by decide +kernel
theorem d12_12 : decode jdk_42_method_56_code 12 = .ok (.invokestatic 495, 3) := by decide +kernel
theorem pd__28__5b_BI_29_C : parseMethodDescriptor "([BI)C" = some ⟨[(.array .byte), .int], some .char⟩ := by decide +kernel
theorem d12_15 : decode jdk_42_method_56_code 15 = .ok (.ireturn, 1) := by decide +kernel
theorem d13_0 : decode prog_18_method_3_code 0 = .ok (.aload_n 0, 1) := by decide +kernel
theorem d13_1 : decode prog_18_method_3_code 1 = .ok (.invokevirtual 16, 3) := by decide +kernel
theorem d13_4 : decode prog_18_method_3_code 4 = .ok (.ifCond .eq 11, 3) := by decide +kernel
theorem d13_15 : decode prog_18_method_3_code 15 = .ok (.lconst 0, 1) := by decide +kernel
theorem d13_16 : decode prog_18_method_3_code 16 = .ok (.lstore 4, 2) := by decide +kernel
theorem d13_18 : decode prog_18_method_3_code 18 = .ok (.iconst 0, 1) := by decide +kernel
theorem d13_19 : decode prog_18_method_3_code 19 = .ok (.istore 6, 2) := by decide +kernel
theorem d13_21 : decode prog_18_method_3_code 21 = .ok (.iload 6, 2) := by decide +kernel
theorem d13_23 : decode prog_18_method_3_code 23 = .ok (.aload_n 0, 1) := by decide +kernel
theorem d13_24 : decode prog_18_method_3_code 24 = .ok (.invokevirtual 26, 3) := by decide +kernel
theorem pd__28__29_I : parseMethodDescriptor "()I" = some ⟨[], some .int⟩ := by decide +kernel
theorem d13_27 : decode prog_18_method_3_code 27 = .ok (.if_icmp .ge 70, 3) := by decide +kernel
theorem d13_97 : decode prog_18_method_3_code 97 = .ok (.lload 4, 2) := by decide +kernel
theorem d13_99 : decode prog_18_method_3_code 99 = .ok (.iload_n 2, 1) := by decide +kernel
theorem d13_100 : decode prog_18_method_3_code 100 = .ok (.i2l, 1) := by decide +kernel
theorem d13_101 : decode prog_18_method_3_code 101 = .ok (.lcmp, 1) := by decide +kernel
theorem d13_102 : decode prog_18_method_3_code 102 = .ok (.ifCond .ge 11, 3) := by decide +kernel
theorem d13_113 : decode prog_18_method_3_code 113 = .ok (.lload 4, 2) := by decide +kernel
theorem d13_115 : decode prog_18_method_3_code 115 = .ok (.l2i, 1) := by decide +kernel
theorem d13_116 : decode prog_18_method_3_code 116 = .ok (.ireturn, 1) := by decide +kernel
theorem d13_30 : decode prog_18_method_3_code 30 = .ok (.aload_n 0, 1) := by decide +kernel
theorem d13_31 : decode prog_18_method_3_code 31 = .ok (.iload 6, 2) := by decide +kernel
theorem d13_33 : decode prog_18_method_3_code 33 = .ok (.invokevirtual 30, 3) := by decide +kernel
theorem pd__28_I_29_C : parseMethodDescriptor "(I)C" = some ⟨[.int], some .char⟩ := by decide +kernel
theorem d13_36 : decode prog_18_method_3_code 36 = .ok (.istore 7, 2) := by decide +kernel
theorem d13_38 : decode prog_18_method_3_code 38 = .ok (.iload 7, 2) := by decide +kernel
theorem d13_40 : decode prog_18_method_3_code 40 = .ok (.bipush 48, 2) := by decide +kernel
theorem d13_42 : decode prog_18_method_3_code 42 = .ok (.if_icmp .lt 10, 3) := by decide +kernel
theorem d13_45 : decode prog_18_method_3_code 45 = .ok (.iload 7, 2) := by decide +kernel
theorem d13_47 : decode prog_18_method_3_code 47 = .ok (.bipush 57, 2) := by decide +kernel
theorem d13_49 : decode prog_18_method_3_code 49 = .ok (.if_icmp .le 11, 3) := by decide +kernel
theorem d13_60 : decode prog_18_method_3_code 60 = .ok (.lload 4, 2) := by decide +kernel
theorem d13_62 : decode prog_18_method_3_code 62 = .ok (.ldc2_w 34, 3) := by decide +kernel
theorem d13_65 : decode prog_18_method_3_code 65 = .ok (.lmul, 1) := by decide +kernel
theorem d13_66 : decode prog_18_method_3_code 66 = .ok (.iload 7, 2) := by decide +kernel
theorem d13_68 : decode prog_18_method_3_code 68 = .ok (.bipush 48, 2) := by decide +kernel
theorem d13_70 : decode prog_18_method_3_code 70 = .ok (.isub, 1) := by decide +kernel
theorem d13_71 : decode prog_18_method_3_code 71 = .ok (.i2l, 1) := by decide +kernel
theorem d13_72 : decode prog_18_method_3_code 72 = .ok (.ladd, 1) := by decide +kernel
theorem d13_73 : decode prog_18_method_3_code 73 = .ok (.lstore 4, 2) := by decide +kernel
theorem d13_75 : decode prog_18_method_3_code 75 = .ok (.lload 4, 2) := by decide +kernel
theorem d13_77 : decode prog_18_method_3_code 77 = .ok (.iload_n 3, 1) := by decide +kernel
theorem d13_78 : decode prog_18_method_3_code 78 = .ok (.i2l, 1) := by decide +kernel
theorem d13_79 : decode prog_18_method_3_code 79 = .ok (.lcmp, 1) := by decide +kernel
theorem d13_80 : decode prog_18_method_3_code 80 = .ok (.ifCond .le 11, 3) := by decide +kernel
theorem d13_91 : decode prog_18_method_3_code 91 = .ok (.iinc 6 1, 3) := by decide +kernel
theorem d13_94 : decode prog_18_method_3_code 94 = .ok (.goto (-73), 3) := by decide +kernel
theorem pn_com_example_quire_quire_catalogue_WholeNumber : plainName "com/example/quire/quire/catalogue/WholeNumber" = true := by first | (simp [plainName, overriddenIn]; done) | decide +kernel
theorem d14_0 : decode method_2_code 0 = .ok (.bipush 48, 2) := by decide +kernel
theorem d14_2 : decode method_2_code 2 = .ok (.lload_n 0, 1) := by decide +kernel
theorem d14_3 : decode method_2_code 3 = .ok (.lload_n 2, 1) := by decide +kernel
theorem d14_4 : decode method_2_code 4 = .ok (.ldiv, 1) := by decide +kernel
theorem d14_5 : decode method_2_code 5 = .ok (.ldc2_w 7, 3) := by decide +kernel
theorem d14_8 : decode method_2_code 8 = .ok (.lrem, 1) := by decide +kernel
theorem d14_9 : decode method_2_code 9 = .ok (.l2i, 1) := by decide +kernel
theorem d14_10 : decode method_2_code 10 = .ok (.iadd, 1) := by decide +kernel
theorem d14_11 : decode method_2_code 11 = .ok (.i2c, 1) := by decide +kernel
theorem d14_12 : decode method_2_code 12 = .ok (.ireturn, 1) := by decide +kernel
theorem pn_com_example_quire_quire_catalogue_WholeNumberParsePinLaw : plainName "com/example/quire/quire/catalogue/WholeNumberParsePinLaw" = true := by first | (simp [plainName, overriddenIn]; done) | decide +kernel
theorem d15_0 : decode method_3_code 0 = .ok (.iload_n 2, 1) := by decide +kernel
theorem d15_1 : decode method_3_code 1 = .ok (.tableswitch 710 1 10 #[55, 74, 103, 142, 191, 250, 320, 401, 493, 596], 55) := by decide +kernel
theorem d15_56 : decode method_3_code 56 = .ok (.new 9, 3) := by decide +kernel
theorem d15_59 : decode method_3_code 59 = .ok (.dup, 1) := by decide +kernel
theorem d15_60 : decode method_3_code 60 = .ok (.iconst 1, 1) := by decide +kernel
theorem d15_61 : decode method_3_code 61 = .ok (.newarray .char, 2) := by decide +kernel
theorem d15_63 : decode method_3_code 63 = .ok (.dup, 1) := by decide +kernel
theorem d15_64 : decode method_3_code 64 = .ok (.iconst 0, 1) := by decide +kernel
theorem d15_65 : decode method_3_code 65 = .ok (.lload_n 0, 1) := by decide +kernel
theorem d15_66 : decode method_3_code 66 = .ok (.lconst 1, 1) := by decide +kernel
theorem d15_67 : decode method_3_code 67 = .ok (.invokestatic 11, 3) := by decide +kernel
theorem pd__28_JJ_29_C : parseMethodDescriptor "(JJ)C" = some ⟨[.long, .long], some .char⟩ := by decide +kernel
theorem d15_70 : decode method_3_code 70 = .ok (.castore, 1) := by decide +kernel
theorem d15_71 : decode method_3_code 71 = .ok (.invokespecial 17, 3) := by decide +kernel
theorem pd__28__5b_C_29_V : parseMethodDescriptor "([C)V" = some ⟨[(.array .char)], none⟩ := by decide +kernel
theorem d15_74 : decode method_3_code 74 = .ok (.areturn, 1) := by decide +kernel
theorem d15_75 : decode method_3_code 75 = .ok (.new 9, 3) := by decide +kernel
theorem d15_78 : decode method_3_code 78 = .ok (.dup, 1) := by decide +kernel
theorem d15_79 : decode method_3_code 79 = .ok (.iconst 2, 1) := by decide +kernel
theorem d15_80 : decode method_3_code 80 = .ok (.newarray .char, 2) := by decide +kernel
theorem d15_82 : decode method_3_code 82 = .ok (.dup, 1) := by decide +kernel
theorem d15_83 : decode method_3_code 83 = .ok (.iconst 0, 1) := by decide +kernel
theorem d15_84 : decode method_3_code 84 = .ok (.lload_n 0, 1) := by decide +kernel
theorem d15_85 : decode method_3_code 85 = .ok (.ldc2_w 7, 3) := by decide +kernel
theorem d15_88 : decode method_3_code 88 = .ok (.invokestatic 11, 3) := by decide +kernel
theorem d15_91 : decode method_3_code 91 = .ok (.castore, 1) := by decide +kernel
theorem d15_92 : decode method_3_code 92 = .ok (.dup, 1) := by decide +kernel
theorem d15_93 : decode method_3_code 93 = .ok (.iconst 1, 1) := by decide +kernel
theorem d15_94 : decode method_3_code 94 = .ok (.lload_n 0, 1) := by decide +kernel
theorem d15_95 : decode method_3_code 95 = .ok (.lconst 1, 1) := by decide +kernel
theorem d15_96 : decode method_3_code 96 = .ok (.invokestatic 11, 3) := by decide +kernel
theorem d15_99 : decode method_3_code 99 = .ok (.castore, 1) := by decide +kernel
theorem d15_100 : decode method_3_code 100 = .ok (.invokespecial 17, 3) := by decide +kernel
theorem d15_103 : decode method_3_code 103 = .ok (.areturn, 1) := by decide +kernel
theorem d15_104 : decode method_3_code 104 = .ok (.new 9, 3) := by decide +kernel
theorem d15_107 : decode method_3_code 107 = .ok (.dup, 1) := by decide +kernel
theorem d15_108 : decode method_3_code 108 = .ok (.iconst 3, 1) := by decide +kernel
theorem d15_109 : decode method_3_code 109 = .ok (.newarray .char, 2) := by decide +kernel
theorem d15_111 : decode method_3_code 111 = .ok (.dup, 1) := by decide +kernel
theorem d15_112 : decode method_3_code 112 = .ok (.iconst 0, 1) := by decide +kernel
theorem d15_113 : decode method_3_code 113 = .ok (.lload_n 0, 1) := by decide +kernel
theorem d15_114 : decode method_3_code 114 = .ok (.ldc2_w 20, 3) := by decide +kernel
theorem d15_117 : decode method_3_code 117 = .ok (.invokestatic 11, 3) := by decide +kernel
theorem d15_120 : decode method_3_code 120 = .ok (.castore, 1) := by decide +kernel
theorem d15_121 : decode method_3_code 121 = .ok (.dup, 1) := by decide +kernel
theorem d15_122 : decode method_3_code 122 = .ok (.iconst 1, 1) := by decide +kernel
theorem d15_123 : decode method_3_code 123 = .ok (.lload_n 0, 1) := by decide +kernel
theorem d15_124 : decode method_3_code 124 = .ok (.ldc2_w 7, 3) := by decide +kernel
theorem d15_127 : decode method_3_code 127 = .ok (.invokestatic 11, 3) := by decide +kernel
theorem d15_130 : decode method_3_code 130 = .ok (.castore, 1) := by decide +kernel
theorem d15_131 : decode method_3_code 131 = .ok (.dup, 1) := by decide +kernel
theorem d15_132 : decode method_3_code 132 = .ok (.iconst 2, 1) := by decide +kernel
theorem d15_133 : decode method_3_code 133 = .ok (.lload_n 0, 1) := by decide +kernel
theorem d15_134 : decode method_3_code 134 = .ok (.lconst 1, 1) := by decide +kernel
theorem d15_135 : decode method_3_code 135 = .ok (.invokestatic 11, 3) := by decide +kernel
theorem d15_138 : decode method_3_code 138 = .ok (.castore, 1) := by decide +kernel
theorem d15_139 : decode method_3_code 139 = .ok (.invokespecial 17, 3) := by decide +kernel
theorem d15_142 : decode method_3_code 142 = .ok (.areturn, 1) := by decide +kernel
theorem d15_143 : decode method_3_code 143 = .ok (.new 9, 3) := by decide +kernel
theorem d15_146 : decode method_3_code 146 = .ok (.dup, 1) := by decide +kernel
theorem d15_147 : decode method_3_code 147 = .ok (.iconst 4, 1) := by decide +kernel
theorem d15_148 : decode method_3_code 148 = .ok (.newarray .char, 2) := by decide +kernel
theorem d15_150 : decode method_3_code 150 = .ok (.dup, 1) := by decide +kernel
theorem d15_151 : decode method_3_code 151 = .ok (.iconst 0, 1) := by decide +kernel
theorem d15_152 : decode method_3_code 152 = .ok (.lload_n 0, 1) := by decide +kernel
theorem d15_153 : decode method_3_code 153 = .ok (.ldc2_w 22, 3) := by decide +kernel
theorem d15_156 : decode method_3_code 156 = .ok (.invokestatic 11, 3) := by decide +kernel
theorem d15_159 : decode method_3_code 159 = .ok (.castore, 1) := by decide +kernel
theorem d15_160 : decode method_3_code 160 = .ok (.dup, 1) := by decide +kernel
theorem d15_161 : decode method_3_code 161 = .ok (.iconst 1, 1) := by decide +kernel
theorem d15_162 : decode method_3_code 162 = .ok (.lload_n 0, 1) := by decide +kernel
theorem d15_163 : decode method_3_code 163 = .ok (.ldc2_w 20, 3) := by decide +kernel
theorem d15_166 : decode method_3_code 166 = .ok (.invokestatic 11, 3) := by decide +kernel
theorem d15_169 : decode method_3_code 169 = .ok (.castore, 1) := by decide +kernel
theorem d15_170 : decode method_3_code 170 = .ok (.dup, 1) := by decide +kernel
theorem d15_171 : decode method_3_code 171 = .ok (.iconst 2, 1) := by decide +kernel
theorem d15_172 : decode method_3_code 172 = .ok (.lload_n 0, 1) := by decide +kernel
theorem d15_173 : decode method_3_code 173 = .ok (.ldc2_w 7, 3) := by decide +kernel
theorem d15_176 : decode method_3_code 176 = .ok (.invokestatic 11, 3) := by decide +kernel
theorem d15_179 : decode method_3_code 179 = .ok (.castore, 1) := by decide +kernel
theorem d15_180 : decode method_3_code 180 = .ok (.dup, 1) := by decide +kernel
theorem d15_181 : decode method_3_code 181 = .ok (.iconst 3, 1) := by decide +kernel
theorem d15_182 : decode method_3_code 182 = .ok (.lload_n 0, 1) := by decide +kernel
theorem d15_183 : decode method_3_code 183 = .ok (.lconst 1, 1) := by decide +kernel
theorem d15_184 : decode method_3_code 184 = .ok (.invokestatic 11, 3) := by decide +kernel
theorem d15_187 : decode method_3_code 187 = .ok (.castore, 1) := by decide +kernel
theorem d15_188 : decode method_3_code 188 = .ok (.invokespecial 17, 3) := by decide +kernel
theorem d15_191 : decode method_3_code 191 = .ok (.areturn, 1) := by decide +kernel
theorem d15_192 : decode method_3_code 192 = .ok (.new 9, 3) := by decide +kernel
theorem d15_195 : decode method_3_code 195 = .ok (.dup, 1) := by decide +kernel
theorem d15_196 : decode method_3_code 196 = .ok (.iconst 5, 1) := by decide +kernel
theorem d15_197 : decode method_3_code 197 = .ok (.newarray .char, 2) := by decide +kernel
theorem d15_199 : decode method_3_code 199 = .ok (.dup, 1) := by decide +kernel
theorem d15_200 : decode method_3_code 200 = .ok (.iconst 0, 1) := by decide +kernel
theorem d15_201 : decode method_3_code 201 = .ok (.lload_n 0, 1) := by decide +kernel
theorem d15_202 : decode method_3_code 202 = .ok (.ldc2_w 24, 3) := by decide +kernel
theorem d15_205 : decode method_3_code 205 = .ok (.invokestatic 11, 3) := by decide +kernel
theorem d15_208 : decode method_3_code 208 = .ok (.castore, 1) := by decide +kernel
theorem d15_209 : decode method_3_code 209 = .ok (.dup, 1) := by decide +kernel
theorem d15_210 : decode method_3_code 210 = .ok (.iconst 1, 1) := by decide +kernel
theorem d15_211 : decode method_3_code 211 = .ok (.lload_n 0, 1) := by decide +kernel
theorem d15_212 : decode method_3_code 212 = .ok (.ldc2_w 22, 3) := by decide +kernel
theorem d15_215 : decode method_3_code 215 = .ok (.invokestatic 11, 3) := by decide +kernel
theorem d15_218 : decode method_3_code 218 = .ok (.castore, 1) := by decide +kernel
theorem d15_219 : decode method_3_code 219 = .ok (.dup, 1) := by decide +kernel
theorem d15_220 : decode method_3_code 220 = .ok (.iconst 2, 1) := by decide +kernel
theorem d15_221 : decode method_3_code 221 = .ok (.lload_n 0, 1) := by decide +kernel
theorem d15_222 : decode method_3_code 222 = .ok (.ldc2_w 20, 3) := by decide +kernel
theorem d15_225 : decode method_3_code 225 = .ok (.invokestatic 11, 3) := by decide +kernel
theorem d15_228 : decode method_3_code 228 = .ok (.castore, 1) := by decide +kernel
theorem d15_229 : decode method_3_code 229 = .ok (.dup, 1) := by decide +kernel
theorem d15_230 : decode method_3_code 230 = .ok (.iconst 3, 1) := by decide +kernel
theorem d15_231 : decode method_3_code 231 = .ok (.lload_n 0, 1) := by decide +kernel
theorem d15_232 : decode method_3_code 232 = .ok (.ldc2_w 7, 3) := by decide +kernel
theorem d15_235 : decode method_3_code 235 = .ok (.invokestatic 11, 3) := by decide +kernel
theorem d15_238 : decode method_3_code 238 = .ok (.castore, 1) := by decide +kernel
theorem d15_239 : decode method_3_code 239 = .ok (.dup, 1) := by decide +kernel
theorem d15_240 : decode method_3_code 240 = .ok (.iconst 4, 1) := by decide +kernel
theorem d15_241 : decode method_3_code 241 = .ok (.lload_n 0, 1) := by decide +kernel
theorem d15_242 : decode method_3_code 242 = .ok (.lconst 1, 1) := by decide +kernel
theorem d15_243 : decode method_3_code 243 = .ok (.invokestatic 11, 3) := by decide +kernel
theorem d15_246 : decode method_3_code 246 = .ok (.castore, 1) := by decide +kernel
theorem d15_247 : decode method_3_code 247 = .ok (.invokespecial 17, 3) := by decide +kernel
theorem d15_250 : decode method_3_code 250 = .ok (.areturn, 1) := by decide +kernel
theorem d15_251 : decode method_3_code 251 = .ok (.new 9, 3) := by decide +kernel
theorem d15_254 : decode method_3_code 254 = .ok (.dup, 1) := by decide +kernel
theorem d15_255 : decode method_3_code 255 = .ok (.bipush 6, 2) := by decide +kernel
theorem d15_257 : decode method_3_code 257 = .ok (.newarray .char, 2) := by decide +kernel
theorem d15_259 : decode method_3_code 259 = .ok (.dup, 1) := by decide +kernel
theorem d15_260 : decode method_3_code 260 = .ok (.iconst 0, 1) := by decide +kernel
theorem d15_261 : decode method_3_code 261 = .ok (.lload_n 0, 1) := by decide +kernel
theorem d15_262 : decode method_3_code 262 = .ok (.ldc2_w 26, 3) := by decide +kernel
theorem d15_265 : decode method_3_code 265 = .ok (.invokestatic 11, 3) := by decide +kernel
theorem d15_268 : decode method_3_code 268 = .ok (.castore, 1) := by decide +kernel
theorem d15_269 : decode method_3_code 269 = .ok (.dup, 1) := by decide +kernel
theorem d15_270 : decode method_3_code 270 = .ok (.iconst 1, 1) := by decide +kernel
theorem d15_271 : decode method_3_code 271 = .ok (.lload_n 0, 1) := by decide +kernel
theorem d15_272 : decode method_3_code 272 = .ok (.ldc2_w 24, 3) := by decide +kernel
theorem d15_275 : decode method_3_code 275 = .ok (.invokestatic 11, 3) := by decide +kernel
theorem d15_278 : decode method_3_code 278 = .ok (.castore, 1) := by decide +kernel
theorem d15_279 : decode method_3_code 279 = .ok (.dup, 1) := by decide +kernel
theorem d15_280 : decode method_3_code 280 = .ok (.iconst 2, 1) := by decide +kernel
theorem d15_281 : decode method_3_code 281 = .ok (.lload_n 0, 1) := by decide +kernel
theorem d15_282 : decode method_3_code 282 = .ok (.ldc2_w 22, 3) := by decide +kernel
theorem d15_285 : decode method_3_code 285 = .ok (.invokestatic 11, 3) := by decide +kernel
theorem d15_288 : decode method_3_code 288 = .ok (.castore, 1) := by decide +kernel
theorem d15_289 : decode method_3_code 289 = .ok (.dup, 1) := by decide +kernel
theorem d15_290 : decode method_3_code 290 = .ok (.iconst 3, 1) := by decide +kernel
theorem d15_291 : decode method_3_code 291 = .ok (.lload_n 0, 1) := by decide +kernel
theorem d15_292 : decode method_3_code 292 = .ok (.ldc2_w 20, 3) := by decide +kernel
theorem d15_295 : decode method_3_code 295 = .ok (.invokestatic 11, 3) := by decide +kernel
theorem d15_298 : decode method_3_code 298 = .ok (.castore, 1) := by decide +kernel
theorem d15_299 : decode method_3_code 299 = .ok (.dup, 1) := by decide +kernel
theorem d15_300 : decode method_3_code 300 = .ok (.iconst 4, 1) := by decide +kernel
theorem d15_301 : decode method_3_code 301 = .ok (.lload_n 0, 1) := by decide +kernel
theorem d15_302 : decode method_3_code 302 = .ok (.ldc2_w 7, 3) := by decide +kernel
theorem d15_305 : decode method_3_code 305 = .ok (.invokestatic 11, 3) := by decide +kernel
theorem d15_308 : decode method_3_code 308 = .ok (.castore, 1) := by decide +kernel
theorem d15_309 : decode method_3_code 309 = .ok (.dup, 1) := by decide +kernel
theorem d15_310 : decode method_3_code 310 = .ok (.iconst 5, 1) := by decide +kernel
theorem d15_311 : decode method_3_code 311 = .ok (.lload_n 0, 1) := by decide +kernel
theorem d15_312 : decode method_3_code 312 = .ok (.lconst 1, 1) := by decide +kernel
theorem d15_313 : decode method_3_code 313 = .ok (.invokestatic 11, 3) := by decide +kernel
theorem d15_316 : decode method_3_code 316 = .ok (.castore, 1) := by decide +kernel
theorem d15_317 : decode method_3_code 317 = .ok (.invokespecial 17, 3) := by decide +kernel
theorem d15_320 : decode method_3_code 320 = .ok (.areturn, 1) := by decide +kernel
theorem d15_321 : decode method_3_code 321 = .ok (.new 9, 3) := by decide +kernel
theorem d15_324 : decode method_3_code 324 = .ok (.dup, 1) := by decide +kernel
theorem d15_325 : decode method_3_code 325 = .ok (.bipush 7, 2) := by decide +kernel
theorem d15_327 : decode method_3_code 327 = .ok (.newarray .char, 2) := by decide +kernel
theorem d15_329 : decode method_3_code 329 = .ok (.dup, 1) := by decide +kernel
theorem d15_330 : decode method_3_code 330 = .ok (.iconst 0, 1) := by decide +kernel
theorem d15_331 : decode method_3_code 331 = .ok (.lload_n 0, 1) := by decide +kernel
theorem d15_332 : decode method_3_code 332 = .ok (.ldc2_w 28, 3) := by decide +kernel
theorem d15_335 : decode method_3_code 335 = .ok (.invokestatic 11, 3) := by decide +kernel
theorem d15_338 : decode method_3_code 338 = .ok (.castore, 1) := by decide +kernel
theorem d15_339 : decode method_3_code 339 = .ok (.dup, 1) := by decide +kernel
theorem d15_340 : decode method_3_code 340 = .ok (.iconst 1, 1) := by decide +kernel
theorem d15_341 : decode method_3_code 341 = .ok (.lload_n 0, 1) := by decide +kernel
theorem d15_342 : decode method_3_code 342 = .ok (.ldc2_w 26, 3) := by decide +kernel
theorem d15_345 : decode method_3_code 345 = .ok (.invokestatic 11, 3) := by decide +kernel
theorem d15_348 : decode method_3_code 348 = .ok (.castore, 1) := by decide +kernel
theorem d15_349 : decode method_3_code 349 = .ok (.dup, 1) := by decide +kernel
theorem d15_350 : decode method_3_code 350 = .ok (.iconst 2, 1) := by decide +kernel
theorem d15_351 : decode method_3_code 351 = .ok (.lload_n 0, 1) := by decide +kernel
theorem d15_352 : decode method_3_code 352 = .ok (.ldc2_w 24, 3) := by decide +kernel
theorem d15_355 : decode method_3_code 355 = .ok (.invokestatic 11, 3) := by decide +kernel
theorem d15_358 : decode method_3_code 358 = .ok (.castore, 1) := by decide +kernel
theorem d15_359 : decode method_3_code 359 = .ok (.dup, 1) := by decide +kernel
theorem d15_360 : decode method_3_code 360 = .ok (.iconst 3, 1) := by decide +kernel
theorem d15_361 : decode method_3_code 361 = .ok (.lload_n 0, 1) := by decide +kernel
theorem d15_362 : decode method_3_code 362 = .ok (.ldc2_w 22, 3) := by decide +kernel
theorem d15_365 : decode method_3_code 365 = .ok (.invokestatic 11, 3) := by decide +kernel
theorem d15_368 : decode method_3_code 368 = .ok (.castore, 1) := by decide +kernel
theorem d15_369 : decode method_3_code 369 = .ok (.dup, 1) := by decide +kernel
theorem d15_370 : decode method_3_code 370 = .ok (.iconst 4, 1) := by decide +kernel
theorem d15_371 : decode method_3_code 371 = .ok (.lload_n 0, 1) := by decide +kernel
theorem d15_372 : decode method_3_code 372 = .ok (.ldc2_w 20, 3) := by decide +kernel
theorem d15_375 : decode method_3_code 375 = .ok (.invokestatic 11, 3) := by decide +kernel
theorem d15_378 : decode method_3_code 378 = .ok (.castore, 1) := by decide +kernel
theorem d15_379 : decode method_3_code 379 = .ok (.dup, 1) := by decide +kernel
theorem d15_380 : decode method_3_code 380 = .ok (.iconst 5, 1) := by decide +kernel
theorem d15_381 : decode method_3_code 381 = .ok (.lload_n 0, 1) := by decide +kernel
theorem d15_382 : decode method_3_code 382 = .ok (.ldc2_w 7, 3) := by decide +kernel
theorem d15_385 : decode method_3_code 385 = .ok (.invokestatic 11, 3) := by decide +kernel
theorem d15_388 : decode method_3_code 388 = .ok (.castore, 1) := by decide +kernel
theorem d15_389 : decode method_3_code 389 = .ok (.dup, 1) := by decide +kernel
theorem d15_390 : decode method_3_code 390 = .ok (.bipush 6, 2) := by decide +kernel
theorem d15_392 : decode method_3_code 392 = .ok (.lload_n 0, 1) := by decide +kernel
theorem d15_393 : decode method_3_code 393 = .ok (.lconst 1, 1) := by decide +kernel
theorem d15_394 : decode method_3_code 394 = .ok (.invokestatic 11, 3) := by decide +kernel
theorem d15_397 : decode method_3_code 397 = .ok (.castore, 1) := by decide +kernel
theorem d15_398 : decode method_3_code 398 = .ok (.invokespecial 17, 3) := by decide +kernel
theorem d15_401 : decode method_3_code 401 = .ok (.areturn, 1) := by decide +kernel
theorem d15_402 : decode method_3_code 402 = .ok (.new 9, 3) := by decide +kernel
theorem d15_405 : decode method_3_code 405 = .ok (.dup, 1) := by decide +kernel
theorem d15_406 : decode method_3_code 406 = .ok (.bipush 8, 2) := by decide +kernel
theorem d15_408 : decode method_3_code 408 = .ok (.newarray .char, 2) := by decide +kernel
theorem d15_410 : decode method_3_code 410 = .ok (.dup, 1) := by decide +kernel
theorem d15_411 : decode method_3_code 411 = .ok (.iconst 0, 1) := by decide +kernel
theorem d15_412 : decode method_3_code 412 = .ok (.lload_n 0, 1) := by decide +kernel
theorem d15_413 : decode method_3_code 413 = .ok (.ldc2_w 30, 3) := by decide +kernel
theorem d15_416 : decode method_3_code 416 = .ok (.invokestatic 11, 3) := by decide +kernel
theorem d15_419 : decode method_3_code 419 = .ok (.castore, 1) := by decide +kernel
theorem d15_420 : decode method_3_code 420 = .ok (.dup, 1) := by decide +kernel
theorem d15_421 : decode method_3_code 421 = .ok (.iconst 1, 1) := by decide +kernel
theorem d15_422 : decode method_3_code 422 = .ok (.lload_n 0, 1) := by decide +kernel
theorem d15_423 : decode method_3_code 423 = .ok (.ldc2_w 28, 3) := by decide +kernel
theorem d15_426 : decode method_3_code 426 = .ok (.invokestatic 11, 3) := by decide +kernel
theorem d15_429 : decode method_3_code 429 = .ok (.castore, 1) := by decide +kernel
theorem d15_430 : decode method_3_code 430 = .ok (.dup, 1) := by decide +kernel
theorem d15_431 : decode method_3_code 431 = .ok (.iconst 2, 1) := by decide +kernel
theorem d15_432 : decode method_3_code 432 = .ok (.lload_n 0, 1) := by decide +kernel
theorem d15_433 : decode method_3_code 433 = .ok (.ldc2_w 26, 3) := by decide +kernel
theorem d15_436 : decode method_3_code 436 = .ok (.invokestatic 11, 3) := by decide +kernel
theorem d15_439 : decode method_3_code 439 = .ok (.castore, 1) := by decide +kernel
theorem d15_440 : decode method_3_code 440 = .ok (.dup, 1) := by decide +kernel
theorem d15_441 : decode method_3_code 441 = .ok (.iconst 3, 1) := by decide +kernel
theorem d15_442 : decode method_3_code 442 = .ok (.lload_n 0, 1) := by decide +kernel
theorem d15_443 : decode method_3_code 443 = .ok (.ldc2_w 24, 3) := by decide +kernel
theorem d15_446 : decode method_3_code 446 = .ok (.invokestatic 11, 3) := by decide +kernel
theorem d15_449 : decode method_3_code 449 = .ok (.castore, 1) := by decide +kernel
theorem d15_450 : decode method_3_code 450 = .ok (.dup, 1) := by decide +kernel
theorem d15_451 : decode method_3_code 451 = .ok (.iconst 4, 1) := by decide +kernel
theorem d15_452 : decode method_3_code 452 = .ok (.lload_n 0, 1) := by decide +kernel
theorem d15_453 : decode method_3_code 453 = .ok (.ldc2_w 22, 3) := by decide +kernel
theorem d15_456 : decode method_3_code 456 = .ok (.invokestatic 11, 3) := by decide +kernel
theorem d15_459 : decode method_3_code 459 = .ok (.castore, 1) := by decide +kernel
theorem d15_460 : decode method_3_code 460 = .ok (.dup, 1) := by decide +kernel
theorem d15_461 : decode method_3_code 461 = .ok (.iconst 5, 1) := by decide +kernel
theorem d15_462 : decode method_3_code 462 = .ok (.lload_n 0, 1) := by decide +kernel
theorem d15_463 : decode method_3_code 463 = .ok (.ldc2_w 20, 3) := by decide +kernel
theorem d15_466 : decode method_3_code 466 = .ok (.invokestatic 11, 3) := by decide +kernel
theorem d15_469 : decode method_3_code 469 = .ok (.castore, 1) := by decide +kernel
theorem d15_470 : decode method_3_code 470 = .ok (.dup, 1) := by decide +kernel
theorem d15_471 : decode method_3_code 471 = .ok (.bipush 6, 2) := by decide +kernel
theorem d15_473 : decode method_3_code 473 = .ok (.lload_n 0, 1) := by decide +kernel
theorem d15_474 : decode method_3_code 474 = .ok (.ldc2_w 7, 3) := by decide +kernel
theorem d15_477 : decode method_3_code 477 = .ok (.invokestatic 11, 3) := by decide +kernel
theorem d15_480 : decode method_3_code 480 = .ok (.castore, 1) := by decide +kernel
theorem d15_481 : decode method_3_code 481 = .ok (.dup, 1) := by decide +kernel
theorem d15_482 : decode method_3_code 482 = .ok (.bipush 7, 2) := by decide +kernel
theorem d15_484 : decode method_3_code 484 = .ok (.lload_n 0, 1) := by decide +kernel
theorem d15_485 : decode method_3_code 485 = .ok (.lconst 1, 1) := by decide +kernel
theorem d15_486 : decode method_3_code 486 = .ok (.invokestatic 11, 3) := by decide +kernel
theorem d15_489 : decode method_3_code 489 = .ok (.castore, 1) := by decide +kernel
theorem d15_490 : decode method_3_code 490 = .ok (.invokespecial 17, 3) := by decide +kernel
theorem d15_493 : decode method_3_code 493 = .ok (.areturn, 1) := by decide +kernel
theorem d15_494 : decode method_3_code 494 = .ok (.new 9, 3) := by decide +kernel
theorem d15_497 : decode method_3_code 497 = .ok (.dup, 1) := by decide +kernel
theorem d15_498 : decode method_3_code 498 = .ok (.bipush 9, 2) := by decide +kernel
theorem d15_500 : decode method_3_code 500 = .ok (.newarray .char, 2) := by decide +kernel
theorem d15_502 : decode method_3_code 502 = .ok (.dup, 1) := by decide +kernel
theorem d15_503 : decode method_3_code 503 = .ok (.iconst 0, 1) := by decide +kernel
theorem d15_504 : decode method_3_code 504 = .ok (.lload_n 0, 1) := by decide +kernel
theorem d15_505 : decode method_3_code 505 = .ok (.ldc2_w 32, 3) := by decide +kernel
theorem d15_508 : decode method_3_code 508 = .ok (.invokestatic 11, 3) := by decide +kernel
theorem d15_511 : decode method_3_code 511 = .ok (.castore, 1) := by decide +kernel
theorem d15_512 : decode method_3_code 512 = .ok (.dup, 1) := by decide +kernel
theorem d15_513 : decode method_3_code 513 = .ok (.iconst 1, 1) := by decide +kernel
theorem d15_514 : decode method_3_code 514 = .ok (.lload_n 0, 1) := by decide +kernel
theorem d15_515 : decode method_3_code 515 = .ok (.ldc2_w 30, 3) := by decide +kernel
theorem d15_518 : decode method_3_code 518 = .ok (.invokestatic 11, 3) := by decide +kernel
theorem d15_521 : decode method_3_code 521 = .ok (.castore, 1) := by decide +kernel
theorem d15_522 : decode method_3_code 522 = .ok (.dup, 1) := by decide +kernel
theorem d15_523 : decode method_3_code 523 = .ok (.iconst 2, 1) := by decide +kernel
theorem d15_524 : decode method_3_code 524 = .ok (.lload_n 0, 1) := by decide +kernel
theorem d15_525 : decode method_3_code 525 = .ok (.ldc2_w 28, 3) := by decide +kernel
theorem d15_528 : decode method_3_code 528 = .ok (.invokestatic 11, 3) := by decide +kernel
theorem d15_531 : decode method_3_code 531 = .ok (.castore, 1) := by decide +kernel
theorem d15_532 : decode method_3_code 532 = .ok (.dup, 1) := by decide +kernel
theorem d15_533 : decode method_3_code 533 = .ok (.iconst 3, 1) := by decide +kernel
theorem d15_534 : decode method_3_code 534 = .ok (.lload_n 0, 1) := by decide +kernel
theorem d15_535 : decode method_3_code 535 = .ok (.ldc2_w 26, 3) := by decide +kernel
theorem d15_538 : decode method_3_code 538 = .ok (.invokestatic 11, 3) := by decide +kernel
theorem d15_541 : decode method_3_code 541 = .ok (.castore, 1) := by decide +kernel
theorem d15_542 : decode method_3_code 542 = .ok (.dup, 1) := by decide +kernel
theorem d15_543 : decode method_3_code 543 = .ok (.iconst 4, 1) := by decide +kernel
theorem d15_544 : decode method_3_code 544 = .ok (.lload_n 0, 1) := by decide +kernel
theorem d15_545 : decode method_3_code 545 = .ok (.ldc2_w 24, 3) := by decide +kernel
theorem d15_548 : decode method_3_code 548 = .ok (.invokestatic 11, 3) := by decide +kernel
theorem d15_551 : decode method_3_code 551 = .ok (.castore, 1) := by decide +kernel
theorem d15_552 : decode method_3_code 552 = .ok (.dup, 1) := by decide +kernel
theorem d15_553 : decode method_3_code 553 = .ok (.iconst 5, 1) := by decide +kernel
theorem d15_554 : decode method_3_code 554 = .ok (.lload_n 0, 1) := by decide +kernel
theorem d15_555 : decode method_3_code 555 = .ok (.ldc2_w 22, 3) := by decide +kernel
theorem d15_558 : decode method_3_code 558 = .ok (.invokestatic 11, 3) := by decide +kernel
theorem d15_561 : decode method_3_code 561 = .ok (.castore, 1) := by decide +kernel
theorem d15_562 : decode method_3_code 562 = .ok (.dup, 1) := by decide +kernel
theorem d15_563 : decode method_3_code 563 = .ok (.bipush 6, 2) := by decide +kernel
theorem d15_565 : decode method_3_code 565 = .ok (.lload_n 0, 1) := by decide +kernel
theorem d15_566 : decode method_3_code 566 = .ok (.ldc2_w 20, 3) := by decide +kernel
theorem d15_569 : decode method_3_code 569 = .ok (.invokestatic 11, 3) := by decide +kernel
theorem d15_572 : decode method_3_code 572 = .ok (.castore, 1) := by decide +kernel
theorem d15_573 : decode method_3_code 573 = .ok (.dup, 1) := by decide +kernel
theorem d15_574 : decode method_3_code 574 = .ok (.bipush 7, 2) := by decide +kernel
theorem d15_576 : decode method_3_code 576 = .ok (.lload_n 0, 1) := by decide +kernel
theorem d15_577 : decode method_3_code 577 = .ok (.ldc2_w 7, 3) := by decide +kernel
theorem d15_580 : decode method_3_code 580 = .ok (.invokestatic 11, 3) := by decide +kernel
theorem d15_583 : decode method_3_code 583 = .ok (.castore, 1) := by decide +kernel
theorem d15_584 : decode method_3_code 584 = .ok (.dup, 1) := by decide +kernel
theorem d15_585 : decode method_3_code 585 = .ok (.bipush 8, 2) := by decide +kernel
theorem d15_587 : decode method_3_code 587 = .ok (.lload_n 0, 1) := by decide +kernel
theorem d15_588 : decode method_3_code 588 = .ok (.lconst 1, 1) := by decide +kernel
theorem d15_589 : decode method_3_code 589 = .ok (.invokestatic 11, 3) := by decide +kernel
theorem d15_592 : decode method_3_code 592 = .ok (.castore, 1) := by decide +kernel
theorem d15_593 : decode method_3_code 593 = .ok (.invokespecial 17, 3) := by decide +kernel
theorem d15_596 : decode method_3_code 596 = .ok (.areturn, 1) := by decide +kernel
theorem d15_597 : decode method_3_code 597 = .ok (.new 9, 3) := by decide +kernel
theorem d15_600 : decode method_3_code 600 = .ok (.dup, 1) := by decide +kernel
theorem d15_601 : decode method_3_code 601 = .ok (.bipush 10, 2) := by decide +kernel
theorem d15_603 : decode method_3_code 603 = .ok (.newarray .char, 2) := by decide +kernel
theorem d15_605 : decode method_3_code 605 = .ok (.dup, 1) := by decide +kernel
theorem d15_606 : decode method_3_code 606 = .ok (.iconst 0, 1) := by decide +kernel
theorem d15_607 : decode method_3_code 607 = .ok (.lload_n 0, 1) := by decide +kernel
theorem d15_608 : decode method_3_code 608 = .ok (.ldc2_w 34, 3) := by decide +kernel
theorem d15_611 : decode method_3_code 611 = .ok (.invokestatic 11, 3) := by decide +kernel
theorem d15_614 : decode method_3_code 614 = .ok (.castore, 1) := by decide +kernel
theorem d15_615 : decode method_3_code 615 = .ok (.dup, 1) := by decide +kernel
theorem d15_616 : decode method_3_code 616 = .ok (.iconst 1, 1) := by decide +kernel
theorem d15_617 : decode method_3_code 617 = .ok (.lload_n 0, 1) := by decide +kernel
theorem d15_618 : decode method_3_code 618 = .ok (.ldc2_w 32, 3) := by decide +kernel
theorem d15_621 : decode method_3_code 621 = .ok (.invokestatic 11, 3) := by decide +kernel
theorem d15_624 : decode method_3_code 624 = .ok (.castore, 1) := by decide +kernel
theorem d15_625 : decode method_3_code 625 = .ok (.dup, 1) := by decide +kernel
theorem d15_626 : decode method_3_code 626 = .ok (.iconst 2, 1) := by decide +kernel
theorem d15_627 : decode method_3_code 627 = .ok (.lload_n 0, 1) := by decide +kernel
theorem d15_628 : decode method_3_code 628 = .ok (.ldc2_w 30, 3) := by decide +kernel
theorem d15_631 : decode method_3_code 631 = .ok (.invokestatic 11, 3) := by decide +kernel
theorem d15_634 : decode method_3_code 634 = .ok (.castore, 1) := by decide +kernel
theorem d15_635 : decode method_3_code 635 = .ok (.dup, 1) := by decide +kernel
theorem d15_636 : decode method_3_code 636 = .ok (.iconst 3, 1) := by decide +kernel
theorem d15_637 : decode method_3_code 637 = .ok (.lload_n 0, 1) := by decide +kernel
theorem d15_638 : decode method_3_code 638 = .ok (.ldc2_w 28, 3) := by decide +kernel
theorem d15_641 : decode method_3_code 641 = .ok (.invokestatic 11, 3) := by decide +kernel
theorem d15_644 : decode method_3_code 644 = .ok (.castore, 1) := by decide +kernel
theorem d15_645 : decode method_3_code 645 = .ok (.dup, 1) := by decide +kernel
theorem d15_646 : decode method_3_code 646 = .ok (.iconst 4, 1) := by decide +kernel
theorem d15_647 : decode method_3_code 647 = .ok (.lload_n 0, 1) := by decide +kernel
theorem d15_648 : decode method_3_code 648 = .ok (.ldc2_w 26, 3) := by decide +kernel
theorem d15_651 : decode method_3_code 651 = .ok (.invokestatic 11, 3) := by decide +kernel
theorem d15_654 : decode method_3_code 654 = .ok (.castore, 1) := by decide +kernel
theorem d15_655 : decode method_3_code 655 = .ok (.dup, 1) := by decide +kernel
theorem d15_656 : decode method_3_code 656 = .ok (.iconst 5, 1) := by decide +kernel
theorem d15_657 : decode method_3_code 657 = .ok (.lload_n 0, 1) := by decide +kernel
theorem d15_658 : decode method_3_code 658 = .ok (.ldc2_w 24, 3) := by decide +kernel
theorem d15_661 : decode method_3_code 661 = .ok (.invokestatic 11, 3) := by decide +kernel
theorem d15_664 : decode method_3_code 664 = .ok (.castore, 1) := by decide +kernel
theorem d15_665 : decode method_3_code 665 = .ok (.dup, 1) := by decide +kernel
theorem d15_666 : decode method_3_code 666 = .ok (.bipush 6, 2) := by decide +kernel
theorem d15_668 : decode method_3_code 668 = .ok (.lload_n 0, 1) := by decide +kernel
theorem d15_669 : decode method_3_code 669 = .ok (.ldc2_w 22, 3) := by decide +kernel
theorem d15_672 : decode method_3_code 672 = .ok (.invokestatic 11, 3) := by decide +kernel
theorem d15_675 : decode method_3_code 675 = .ok (.castore, 1) := by decide +kernel
theorem d15_676 : decode method_3_code 676 = .ok (.dup, 1) := by decide +kernel
theorem d15_677 : decode method_3_code 677 = .ok (.bipush 7, 2) := by decide +kernel
theorem d15_679 : decode method_3_code 679 = .ok (.lload_n 0, 1) := by decide +kernel
theorem d15_680 : decode method_3_code 680 = .ok (.ldc2_w 20, 3) := by decide +kernel
theorem d15_683 : decode method_3_code 683 = .ok (.invokestatic 11, 3) := by decide +kernel
theorem d15_686 : decode method_3_code 686 = .ok (.castore, 1) := by decide +kernel
theorem d15_687 : decode method_3_code 687 = .ok (.dup, 1) := by decide +kernel
theorem d15_688 : decode method_3_code 688 = .ok (.bipush 8, 2) := by decide +kernel
theorem d15_690 : decode method_3_code 690 = .ok (.lload_n 0, 1) := by decide +kernel
theorem d15_691 : decode method_3_code 691 = .ok (.ldc2_w 7, 3) := by decide +kernel
theorem d15_694 : decode method_3_code 694 = .ok (.invokestatic 11, 3) := by decide +kernel
theorem d15_697 : decode method_3_code 697 = .ok (.castore, 1) := by decide +kernel
theorem d15_698 : decode method_3_code 698 = .ok (.dup, 1) := by decide +kernel
theorem d15_699 : decode method_3_code 699 = .ok (.bipush 9, 2) := by decide +kernel
theorem d15_701 : decode method_3_code 701 = .ok (.lload_n 0, 1) := by decide +kernel
theorem d15_702 : decode method_3_code 702 = .ok (.lconst 1, 1) := by decide +kernel
theorem d15_703 : decode method_3_code 703 = .ok (.invokestatic 11, 3) := by decide +kernel
theorem d15_706 : decode method_3_code 706 = .ok (.castore, 1) := by decide +kernel
theorem d15_707 : decode method_3_code 707 = .ok (.invokespecial 17, 3) := by decide +kernel
theorem d15_710 : decode method_3_code 710 = .ok (.areturn, 1) := by decide +kernel
theorem d15_711 : decode method_3_code 711 = .ok (.new 9, 3) := by decide +kernel
theorem d15_714 : decode method_3_code 714 = .ok (.dup, 1) := by decide +kernel
theorem d15_715 : decode method_3_code 715 = .ok (.bipush 11, 2) := by decide +kernel
theorem d15_717 : decode method_3_code 717 = .ok (.newarray .char, 2) := by decide +kernel
theorem d15_719 : decode method_3_code 719 = .ok (.dup, 1) := by decide +kernel
theorem d15_720 : decode method_3_code 720 = .ok (.iconst 0, 1) := by decide +kernel
theorem d15_721 : decode method_3_code 721 = .ok (.lload_n 0, 1) := by decide +kernel
theorem d15_722 : decode method_3_code 722 = .ok (.ldc2_w 36, 3) := by decide +kernel
theorem d15_725 : decode method_3_code 725 = .ok (.invokestatic 11, 3) := by decide +kernel
theorem d15_728 : decode method_3_code 728 = .ok (.castore, 1) := by decide +kernel
theorem d15_729 : decode method_3_code 729 = .ok (.dup, 1) := by decide +kernel
theorem d15_730 : decode method_3_code 730 = .ok (.iconst 1, 1) := by decide +kernel
theorem d15_731 : decode method_3_code 731 = .ok (.lload_n 0, 1) := by decide +kernel
theorem d15_732 : decode method_3_code 732 = .ok (.ldc2_w 34, 3) := by decide +kernel
theorem d15_735 : decode method_3_code 735 = .ok (.invokestatic 11, 3) := by decide +kernel
theorem d15_738 : decode method_3_code 738 = .ok (.castore, 1) := by decide +kernel
theorem d15_739 : decode method_3_code 739 = .ok (.dup, 1) := by decide +kernel
theorem d15_740 : decode method_3_code 740 = .ok (.iconst 2, 1) := by decide +kernel
theorem d15_741 : decode method_3_code 741 = .ok (.lload_n 0, 1) := by decide +kernel
theorem d15_742 : decode method_3_code 742 = .ok (.ldc2_w 32, 3) := by decide +kernel
theorem d15_745 : decode method_3_code 745 = .ok (.invokestatic 11, 3) := by decide +kernel
theorem d15_748 : decode method_3_code 748 = .ok (.castore, 1) := by decide +kernel
theorem d15_749 : decode method_3_code 749 = .ok (.dup, 1) := by decide +kernel
theorem d15_750 : decode method_3_code 750 = .ok (.iconst 3, 1) := by decide +kernel
theorem d15_751 : decode method_3_code 751 = .ok (.lload_n 0, 1) := by decide +kernel
theorem d15_752 : decode method_3_code 752 = .ok (.ldc2_w 30, 3) := by decide +kernel
theorem d15_755 : decode method_3_code 755 = .ok (.invokestatic 11, 3) := by decide +kernel
theorem d15_758 : decode method_3_code 758 = .ok (.castore, 1) := by decide +kernel
theorem d15_759 : decode method_3_code 759 = .ok (.dup, 1) := by decide +kernel
theorem d15_760 : decode method_3_code 760 = .ok (.iconst 4, 1) := by decide +kernel
theorem d15_761 : decode method_3_code 761 = .ok (.lload_n 0, 1) := by decide +kernel
theorem d15_762 : decode method_3_code 762 = .ok (.ldc2_w 28, 3) := by decide +kernel
theorem d15_765 : decode method_3_code 765 = .ok (.invokestatic 11, 3) := by decide +kernel
theorem d15_768 : decode method_3_code 768 = .ok (.castore, 1) := by decide +kernel
theorem d15_769 : decode method_3_code 769 = .ok (.dup, 1) := by decide +kernel
theorem d15_770 : decode method_3_code 770 = .ok (.iconst 5, 1) := by decide +kernel
theorem d15_771 : decode method_3_code 771 = .ok (.lload_n 0, 1) := by decide +kernel
theorem d15_772 : decode method_3_code 772 = .ok (.ldc2_w 26, 3) := by decide +kernel
theorem d15_775 : decode method_3_code 775 = .ok (.invokestatic 11, 3) := by decide +kernel
theorem d15_778 : decode method_3_code 778 = .ok (.castore, 1) := by decide +kernel
theorem d15_779 : decode method_3_code 779 = .ok (.dup, 1) := by decide +kernel
theorem d15_780 : decode method_3_code 780 = .ok (.bipush 6, 2) := by decide +kernel
theorem d15_782 : decode method_3_code 782 = .ok (.lload_n 0, 1) := by decide +kernel
theorem d15_783 : decode method_3_code 783 = .ok (.ldc2_w 24, 3) := by decide +kernel
theorem d15_786 : decode method_3_code 786 = .ok (.invokestatic 11, 3) := by decide +kernel
theorem d15_789 : decode method_3_code 789 = .ok (.castore, 1) := by decide +kernel
theorem d15_790 : decode method_3_code 790 = .ok (.dup, 1) := by decide +kernel
theorem d15_791 : decode method_3_code 791 = .ok (.bipush 7, 2) := by decide +kernel
theorem d15_793 : decode method_3_code 793 = .ok (.lload_n 0, 1) := by decide +kernel
theorem d15_794 : decode method_3_code 794 = .ok (.ldc2_w 22, 3) := by decide +kernel
theorem d15_797 : decode method_3_code 797 = .ok (.invokestatic 11, 3) := by decide +kernel
theorem d15_800 : decode method_3_code 800 = .ok (.castore, 1) := by decide +kernel
theorem d15_801 : decode method_3_code 801 = .ok (.dup, 1) := by decide +kernel
theorem d15_802 : decode method_3_code 802 = .ok (.bipush 8, 2) := by decide +kernel
theorem d15_804 : decode method_3_code 804 = .ok (.lload_n 0, 1) := by decide +kernel
theorem d15_805 : decode method_3_code 805 = .ok (.ldc2_w 20, 3) := by decide +kernel
theorem d15_808 : decode method_3_code 808 = .ok (.invokestatic 11, 3) := by decide +kernel
theorem d15_811 : decode method_3_code 811 = .ok (.castore, 1) := by decide +kernel
theorem d15_812 : decode method_3_code 812 = .ok (.dup, 1) := by decide +kernel
theorem d15_813 : decode method_3_code 813 = .ok (.bipush 9, 2) := by decide +kernel
theorem d15_815 : decode method_3_code 815 = .ok (.lload_n 0, 1) := by decide +kernel
theorem d15_816 : decode method_3_code 816 = .ok (.ldc2_w 7, 3) := by decide +kernel
theorem d15_819 : decode method_3_code 819 = .ok (.invokestatic 11, 3) := by decide +kernel
theorem d15_822 : decode method_3_code 822 = .ok (.castore, 1) := by decide +kernel
theorem d15_823 : decode method_3_code 823 = .ok (.dup, 1) := by decide +kernel
theorem d15_824 : decode method_3_code 824 = .ok (.bipush 10, 2) := by decide +kernel
theorem d15_826 : decode method_3_code 826 = .ok (.lload_n 0, 1) := by decide +kernel
theorem d15_827 : decode method_3_code 827 = .ok (.lconst 1, 1) := by decide +kernel
theorem d15_828 : decode method_3_code 828 = .ok (.invokestatic 11, 3) := by decide +kernel
theorem d15_831 : decode method_3_code 831 = .ok (.castore, 1) := by decide +kernel
theorem d15_832 : decode method_3_code 832 = .ok (.invokespecial 17, 3) := by decide +kernel
theorem d15_835 : decode method_3_code 835 = .ok (.areturn, 1) := by decide +kernel
theorem pd__28_JI_29_Ljava_2f_lang_2f_String_3b_ : parseMethodDescriptor "(JI)Ljava/lang/String;" = some ⟨[.long, .int], some (.object "java/lang/String")⟩ := by decide +kernel
theorem pd__28_Ljava_2f_lang_2f_String_3b_Ljava_2f_lang_2f_String_3b_II_29_I : parseMethodDescriptor "(Ljava/lang/String;Ljava/lang/String;II)I" = some ⟨[(.object "java/lang/String"), (.object "java/lang/String"), .int, .int], some .int⟩ := by decide +kernel
set_option maxRecDepth 65536 in
set_option maxHeartbeats 40000000 in
theorem c_cfal  (B : Base Z a0) {h : Heap} {d : Nat} {n : Int32} {vs : List Value} (Ad : Ary Z h d .byte vs) (hn : n.toInt = vs.length) : Con l Z a0 EL it n0 (⟨"java/lang/StringUTF16", "coderFromArrayLen", "([BI)B"⟩ : MethodName) 1 13 0 0 #[.ref d, .int n] h [] (fun v h' => v = some (.int 0) ∧ h = h') := by
  refine Met.con (bytes := jdk_52_method_15_code) (maxL := 2) (ret := (some .byte)) (rm := ({ frames := 0, cells := 0, slots := 0, locals := 0 } : Room)) (Met.of (own := "java/lang/StringUTF16") (nm := "coderFromArrayLen") #[.val (.ref d), .val (.int n)] (ew B) rfl rfl (plainFor_of_name pn_java_lang_StringUTF16) (fun m => by first | (simp [entryFrame, mkF, argsToLocals, Value.category]; done) | rfl) fun K C => ?_) (B.1 _ (List.mem_of_getElem? (i := 47) rfl)) (B.1 _ (List.mem_of_getElem? (i := 39) rfl)) rfl rfl rfl rfl
  refine C.iloadN d0_0 rfl ?_
  refine C.aloadN d0_1 rfl rfl ?_
  refine C.alen (n := n) Ad hn d0_2 ?_
  refine C.isub d0_3 ?_
  refine C.bipush (v := (31 : Int32)) d0_4 (by first | rfl | decide) ?_
  refine C.iushr d0_6 ?_
  refine C.i2b d0_7 ?_
  refine C.topI (show ((n - n).toUInt32 >>> ((31 : Int32) &&& 31).toUInt32).toInt32.toInt8.toInt32 = (0 : Int32) by rw [Int32.sub_self]; decide) ?_
  exact C.ireturn (t := .byte) rfl (by simp) rfl d0_8 (by decide) (by decide) ⟨rfl, rfl⟩
set_option maxRecDepth 65536 in
set_option maxHeartbeats 40000000 in
theorem c_cmp5  (B : Base Z a0) {h : Heap} {b d : Nat} {n : Int32} {cs : List Int32} (Ab : Ary Z h b .char (cs.map Value.int)) (Ad : Ary Z h d .byte (List.replicate cs.length (.int 0))) (nbd : b ≠ d) (hn : n.toInt = cs.length) (hp : ∀ c ∈ cs, 0 ≤ c.toInt ∧ c.toInt < 256) : Con l Z a0 EL it n0 (⟨"java/lang/StringUTF16", "compress", "([CI[BII)I"⟩ : MethodName) 1 18 0 0 #[.ref b, .int (0 : Int32), .ref d, .int (0 : Int32), .int n] h [d] (fun v h' => v = some (.int n) ∧ Ary Z h' d .byte (cs.map fun c => Value.int (lo8 c))) := by
  refine Met.con (bytes := jdk_52_method_21_code) (maxL := 7) (ret := (some .int)) (rm := ({ frames := 0, cells := 0, slots := 0, locals := 0 } : Room)) (Met.of (own := "java/lang/StringUTF16") (nm := "compress") #[.val (.ref b), .val (.int (0 : Int32)), .val (.ref d), .val (.int (0 : Int32)), .val (.int n), .unset, .unset] (ew B) rfl rfl (plainFor_of_name pn_java_lang_StringUTF16) (fun m => by first | (simp [entryFrame, mkF, argsToLocals, Value.category]; done) | rfl) fun K C => ?_) (B.1 _ (List.mem_of_getElem? (i := 44) rfl)) (B.1 _ (List.mem_of_getElem? (i := 39) rfl)) rfl rfl rfl rfl
  have hlen := Ab.len
  rw [List.length_map] at hlen
  have k255 : (255 : Int32).toInt = 255 := by decide
  refine C.iconst (v := (0 : Int32)) d1_0 (by first | rfl | decide) ?_
  refine C.istore #[.val (.ref b), .val (.int (0 : Int32)), .val (.ref d), .val (.int (0 : Int32)), .val (.int n), .val (.int (0 : Int32)), .unset] d1_1 rfl ?_
  suffices LOOP : ∀ (j k : Nat) (h1 : Heap) (s6 : Slot), j + k = cs.length → One s6 → Ary Z h1 b .char (cs.map Value.int) → Ary Z h1 d .byte ((cs.take k).map (fun c => Value.int (lo8 c)) ++ List.replicate j (.int 0)) → C.W h1 [d] 0 0 (mkF K.m 3 #[.val (.ref b), .val (.int (Int32.ofNat k)), .val (.ref d), .val (.int (Int32.ofNat k)), .val (.int n), .val (.int (Int32.ofNat k)), s6] []) from LOOP cs.length 0 h .unset (by omega) One.u Ab Ad
  intro j
  induction j with
  | zero =>
    intro k h1 s6 hjk h6 Ab Ad
    have ek : (Int32.ofNat k).toInt = k := ofNat_int (by omega)
    refine C.iload d1_3 rfl ?_
    refine C.iload d1_5 rfl ?_
    refine C.icmp_ge 44 d1_7 (by decide) (by decide) (fun q1 => ?_) (fun q1 => ?_)
    · refine C.iload d1_44 rfl ?_
      have ek2 : cs.take k = cs := List.take_of_length_le (by omega)
      rw [ek2] at Ad
      exact C.ireturn (t := .int) rfl (by simp) rfl d1_46 (by decide) (by decide) ⟨rfl, by simpa using Ad⟩
    · exfalso; omega
  | succ j ih =>
    intro k h1 s6 hjk h6 Ab Ad
    have ek : (Int32.ofNat k).toInt = k := ofNat_int (by omega)
    refine C.iload d1_3 rfl ?_
    refine C.iload d1_5 rfl ?_
    refine C.icmp_ge 44 d1_7 (by decide) (by decide) (fun q2 => ?_) (fun q2 => ?_)
    · exfalso; omega
    · obtain ⟨c, hc⟩ : ∃ c, cs[k]? = some c := ⟨_, List.getElem?_eq_getElem (by omega)⟩
      have hcb := hp c (List.mem_of_getElem? hc)
      refine C.aloadN d1_10 rfl rfl ?_
      refine C.iloadN d1_11 rfl ?_
      refine C.caload (x := c) k Ab ek (by simp [hc]) d1_12 ?_
      refine C.istore #[.val (.ref b), .val (.int (Int32.ofNat k)), .val (.ref d), .val (.int (Int32.ofNat k)), .val (.int n), .val (.int (Int32.ofNat k)), .val (.int c)] d1_13 (XS.store1 rfl h6 rfl) ?_
      refine C.iload d1_15 rfl ?_
      refine C.sipush (v := (255 : Int32)) d1_17 (by first | rfl | decide) ?_
      refine C.icmp_le 26 d1_20 (by decide) (by decide) (fun q3 => ?_) (fun q3 => ?_)
      · refine C.aloadN d1_26 rfl rfl ?_
        refine C.iloadN d1_27 rfl ?_
        refine C.iload d1_28 rfl ?_
        refine C.i2b d1_30 ?_
        refine C.bastore k Ad ek (by simp; omega) d1_31 (List.mem_of_getElem? (i := 0) rfl) fun h4 z4 K4 Aw4 => ?_
        show C.W h4 [d] 0 0 (mkF K.m 32 #[.val (.ref b), .val (.int (Int32.ofNat k)), .val (.ref d), .val (.int (Int32.ofNat k)), .val (.int n), .val (.int (Int32.ofNat k)), .val (.int c)] [])
        have A4' : Ary Z h4 d .byte ((cs.take (k + 1)).map (fun c => Value.int (lo8 c)) ++ List.replicate j (.int 0)) := by
          rw [lo8_lo8] at Aw4
          rwa [← fill_step (fun c => Value.int (lo8 c)) (.int 0) hc]
        refine C.iinc (z := (1 : Int32)) #[.val (.ref b), .val (.int ((Int32.ofNat k) + (1 : Int32))), .val (.ref d), .val (.int (Int32.ofNat k)), .val (.int n), .val (.int (Int32.ofNat k)), .val (.int c)] d1_32 rfl (by first | rfl | decide) rfl ?_
        refine C.iinc (z := (1 : Int32)) #[.val (.ref b), .val (.int ((Int32.ofNat k) + (1 : Int32))), .val (.ref d), .val (.int ((Int32.ofNat k) + (1 : Int32))), .val (.int n), .val (.int (Int32.ofNat k)), .val (.int c)] d1_35 rfl (by first | rfl | decide) rfl ?_
        refine C.iinc (z := (1 : Int32)) #[.val (.ref b), .val (.int ((Int32.ofNat k) + (1 : Int32))), .val (.ref d), .val (.int ((Int32.ofNat k) + (1 : Int32))), .val (.int n), .val (.int ((Int32.ofNat k) + (1 : Int32))), .val (.int c)] d1_38 rfl (by first | rfl | decide) rfl ?_
        refine C.goto 3 d1_41 (by decide) (by decide) ?_
        rw [ofNat_succ]
        exact ih (k + 1) h4 _ (by omega) (One.val rfl) (Ab.keep K4 (ninS nbd nin0)) A4'
      · exfalso; omega
set_option maxRecDepth 65536 in
set_option maxHeartbeats 40000000 in
theorem c_cmp3  (B : Base Z a0) {h : Heap} {b : Nat} {n : Int32} {cs : List Int32} (Ab : Ary Z h b .char (cs.map Value.int)) (hn : n.toInt = cs.length) (hc : cs.length ≤ 11) (hp : ∀ c ∈ cs, 0 ≤ c.toInt ∧ c.toInt < 256) : Con l Z a0 EL it n0 (⟨"java/lang/StringUTF16", "compress", "([CII)[B"⟩ : MethodName) 2 35 1 11 #[.ref b, .int (0 : Int32), .int n] h [] (fun v h' => ∃ d : Nat, v = some (.ref d) ∧ h.size ≤ d ∧ d < h'.size ∧ Ary Z h' d .byte (cs.map fun c => Value.int (lo8 c))) := by
  refine Met.con (bytes := jdk_52_method_16_code) (maxL := 6) (ret := (some (.array .byte))) (rm := ({ frames := 1, cells := 1, slots := 11, locals := 18 } : Room)) (Met.of (own := "java/lang/StringUTF16") (nm := "compress") #[.val (.ref b), .val (.int (0 : Int32)), .val (.int n), .unset, .unset, .unset] (ew B) rfl rfl (plainFor_of_name pn_java_lang_StringUTF16) (fun m => by first | (simp [entryFrame, mkF, argsToLocals, Value.category]; done) | rfl) fun K C => ?_) (B.1 _ (List.mem_of_getElem? (i := 40) rfl)) (B.1 _ (List.mem_of_getElem? (i := 39) rfl)) rfl rfl rfl rfl
  have lb := Ab.lt
  refine C.iloadN d2_0 rfl ?_
  refine C.newarr cs.length 11 (B.1 _ (List.mem_of_getElem? (i := 41) rfl)) d2_1 hn hc (by decide) (by decide) (by decide) fun h1 a2 g1 z1 o1 K1 An1 => ?_
  show C.W h1 [a2] 1 11 (mkF K.m 3 #[.val (.ref b), .val (.int (0 : Int32)), .val (.int n), .unset, .unset, .unset] [.ref a2])
  refine C.astoreN #[.val (.ref b), .val (.int (0 : Int32)), .val (.int n), .val (.ref a2), .unset, .unset] d2_3 rfl rfl ?_
  refine C.aloadN d2_4 rfl rfl ?_
  refine C.iloadN d2_5 rfl ?_
  refine C.aloadN d2_6 rfl rfl ?_
  refine C.iconst (v := (0 : Int32)) d2_7 (by first | rfl | decide) ?_
  refine C.iloadN d2_8 rfl ?_
  have Ab_3 := (Ab.keep K1 nin0)
  refine C.callS [.ref b, .int (0 : Int32), .ref a2, .int (0 : Int32), .int n] [] 0 (B.1 _ (List.mem_of_getElem? (i := 42) rfl)) (B.1 _ (List.mem_of_getElem? (i := 43) rfl)) (B.1 _ (List.mem_of_getElem? (i := 39) rfl)) (B.1 _ (List.mem_of_getElem? (i := 44) rfl)) (by decide) pd__28__5b_CI_5b_BII_29_I rfl id (c_cmp5 B Ab_3 An1 (neA (by omega)) hn hp) d2_9 rfl rfl rfl (by decide) (by decide) (by decide) (by decide) (allS (List.mem_of_getElem? (i := 0) rfl) all0) fun v4 h4 z4 K4 q4 => ?_
  obtain ⟨rfl, A4⟩ := q4
  show C.W h4 [a2] 1 11 (mkF K.m 12 #[.val (.ref b), .val (.int (0 : Int32)), .val (.int n), .val (.ref a2), .unset, .unset] [.int n])
  refine C.istore #[.val (.ref b), .val (.int (0 : Int32)), .val (.int n), .val (.ref a2), .val (.int n), .unset] d2_12 rfl ?_
  refine C.iload d2_14 rfl ?_
  refine C.iloadN d2_16 rfl ?_
  refine C.icmp_eq 57 d2_17 (by decide) (by decide) (fun q5 => ?_) (fun q5 => ?_)
  · refine C.aloadN d2_57 rfl rfl ?_
    exact C.areturn rfl rfl rfl d2_58 (by decide) (by decide) ⟨a2, rfl, by omega, by omega, A4⟩
  · exfalso; exact absurd rfl q5
set_option maxRecDepth 65536 in
set_option maxHeartbeats 40000000 in
theorem c_init4  (B : Base Z a0) {h : Heap} {x b : Nat} {n : Int32} {cs : List Int32} {v0 c0 : Value} (Ex : Exa Z h x "java/lang/String") (Fv : Fld Z h x "java/lang/String" "value" "[B" v0) (Fc : Fld Z h x "java/lang/String" "coder" "B" c0) (Ab : Ary Z h b .char (cs.map Value.int)) (hn : n.toInt = cs.length) (hc : cs.length ≤ 11) (hp : ∀ c ∈ cs, 0 ≤ c.toInt ∧ c.toInt < 256) (h0 : 0 < cs.length) : Con l Z a0 EL it n0 (⟨"java/lang/String", "<init>", "([CIILjava/lang/Void;)V"⟩ : MethodName) 3 52 1 11 #[.ref x, .ref b, .int (0 : Int32), .int n, .null] h [x] (fun v h' => v = none ∧ Str Z h' h'.size x cs) := by
  refine Met.con (bytes := jdk_42_method_149_code) (maxL := 6) (ret := none) (rm := ({ frames := 2, cells := 1, slots := 11, locals := 35 } : Room)) (Met.of (own := "java/lang/String") (nm := "<init>") #[.val (.ref x), .val (.ref b), .val (.int (0 : Int32)), .val (.int n), .val .null, .unset] (ew B) rfl rfl (plainFor_of_name pn_java_lang_String) (fun m => by first | (simp [entryFrame, mkF, argsToLocals, Value.category]; done) | rfl) fun K C => ?_) (B.1 _ (List.mem_of_getElem? (i := 32) rfl)) (B.1 _ (List.mem_of_getElem? (i := 21) rfl)) rfl rfl rfl rfl
  obtain ⟨zc, Sc, hzc⟩ := B.2.1
  have lx := exaLt Ex
  have lb := Ab.lt
  refine C.aloadN d3_0 rfl rfl ?_
  refine C.initO 0 (B.1 _ (List.mem_of_getElem? (i := 33) rfl)) (B.1 _ (List.mem_of_getElem? (i := 34) rfl)) (B.1 _ (List.mem_of_getElem? (i := 35) rfl)) d3_1 rfl rfl (by decide) (by decide) ?_
  show C.W h [x] 0 0 (mkF K.m 4 #[.val (.ref x), .val (.ref b), .val (.int (0 : Int32)), .val (.int n), .val .null, .unset] [])
  refine C.iloadN d3_4 rfl ?_
  refine C.ifc_ne 27 d3_5 (by decide) (by decide) (fun q1 => ?_) (fun q1 => ?_)
  · refine C.getS (B.1 _ (List.mem_of_getElem? (i := 36) rfl)) Via.refl Sc d3_27 ?_
    refine C.ifc_eq 58 d3_30 (by decide) (by decide) (fun q2 => ?_) (fun q2 => ?_)
    · exfalso; exact hzc (Int32.toInt_inj.mp q2)
    · refine C.aloadN d3_33 rfl rfl ?_
      refine C.iloadN d3_34 rfl ?_
      refine C.iloadN d3_35 rfl ?_
      refine C.callS [.ref b, .int (0 : Int32), .int n] [] 0 (B.1 _ (List.mem_of_getElem? (i := 37) rfl)) (B.1 _ (List.mem_of_getElem? (i := 38) rfl)) (B.1 _ (List.mem_of_getElem? (i := 39) rfl)) (B.1 _ (List.mem_of_getElem? (i := 40) rfl)) (by decide) pd__28__5b_CII_29__5b_B rfl id (c_cmp3 B Ab hn hc hp) d3_36 rfl rfl rfl (by decide) (by decide) (by decide) (by decide) all0 fun v3 h3 z3 K3 q3 => ?_
      obtain ⟨d3, rfl, ld3, lt3, A3⟩ := q3
      show C.W h3 [x] 1 11 (mkF K.m 39 #[.val (.ref x), .val (.ref b), .val (.int (0 : Int32)), .val (.int n), .val .null, .unset] [.ref d3])
      refine C.astore #[.val (.ref x), .val (.ref b), .val (.int (0 : Int32)), .val (.int n), .val .null, .val (.ref d3)] d3_39 rfl rfl ?_
      refine C.aloadN d3_41 rfl rfl ?_
      refine C.aload d3_42 rfl rfl ?_
      refine C.iloadN d3_44 rfl ?_
      refine C.callS [.ref d3, .int n] [.ref x] 1 (B.1 _ (List.mem_of_getElem? (i := 45) rfl)) (B.1 _ (List.mem_of_getElem? (i := 46) rfl)) (B.1 _ (List.mem_of_getElem? (i := 39) rfl)) (B.1 _ (List.mem_of_getElem? (i := 47) rfl)) (by decide) pd__28__5b_BI_29_B rfl id (c_cfal B A3 (by simpa using hn)) d3_45 rfl rfl rfl (by decide) (by decide) (by decide) (by decide) all0 fun v4 h4 z4 K4 q4 => ?_
      obtain ⟨rfl, rfl⟩ := q4
      show C.W h3 [x] 1 11 (mkF K.m 48 #[.val (.ref x), .val (.ref b), .val (.int (0 : Int32)), .val (.int n), .val .null, .val (.ref d3)] [.int (0 : Int32), .ref x])
      have Fc_5 := (Fc.keep K3 nin0)
      have Ex_6 := (Ex.keep K3)
      have Fv_7 := (Fv.keep K3 nin0)
      refine C.putF (host := "") (Or.inl (B.1 _ (List.mem_of_getElem? (i := 48) rfl))) Via.refl Fc_5 Ex_6 (Or.inr ⟨(B.1 _ (List.mem_of_getElem? (i := 49) rfl)), rfl, rfl⟩) (B.1 _ (List.mem_of_getElem? (i := 20) rfl)) (ty := .byte) (by decide) rfl rfl d3_48 (List.mem_of_getElem? (i := 0) rfl) fun h8 z8 K8 Ew8 Fw8 Gw8 => ?_
      have Fv_9 := Gw8 (slot_ne (Or.inr (B.1 _ (List.mem_of_getElem? (i := 51) rfl))) (Or.inr (B.1 _ (List.mem_of_getElem? (i := 49) rfl))) (by decide) (t := (.array .byte)) (t' := .byte) (by decide) (by decide)) Fv_7
      show C.W h8 [x] 1 11 (mkF K.m 51 #[.val (.ref x), .val (.ref b), .val (.int (0 : Int32)), .val (.int n), .val .null, .val (.ref d3)] [])
      refine C.aloadN d3_51 rfl rfl ?_
      refine C.aload d3_52 rfl rfl ?_
      refine C.putF (host := "") (Or.inl (B.1 _ (List.mem_of_getElem? (i := 50) rfl))) Via.refl Fv_9 Ew8 (Or.inr ⟨(B.1 _ (List.mem_of_getElem? (i := 51) rfl)), rfl, rfl⟩) (B.1 _ (List.mem_of_getElem? (i := 20) rfl)) (ty := (.array .byte)) (by decide) rfl rfl d3_54 (List.mem_of_getElem? (i := 0) rfl) fun h10 z10 K10 Ew10 Fw10 Gw10 => ?_
      have Fc_11 := Gw10 (slot_ne (Or.inr (B.1 _ (List.mem_of_getElem? (i := 49) rfl))) (Or.inr (B.1 _ (List.mem_of_getElem? (i := 51) rfl))) (by decide) (t := .byte) (t' := (.array .byte)) (by decide) (by decide)) Fw8
      show C.W h10 [x] 1 11 (mkF K.m 57 #[.val (.ref x), .val (.ref b), .val (.int (0 : Int32)), .val (.int n), .val .null, .val (.ref d3)] [])
      have A3_12 := ((A3.keep K8 (ninS (neA (by omega)) nin0)).keep K10 (ninS (neA (by omega)) nin0))
      exact C.return_ rfl d3_57 (by decide) (by decide) ⟨rfl, Ew10, by omega, Nat.le_refl _, d3, 0, _, by omega, Fw10, Fc_11, A3_12, Or.inl ⟨rfl, rfl, hp⟩⟩
  · exfalso; omega
set_option maxRecDepth 65536 in
set_option maxHeartbeats 40000000 in
theorem c_init1  (B : Base Z a0) {h : Heap} {x b : Nat} {cs : List Int32} {v0 c0 : Value} (Ex : Exa Z h x "java/lang/String") (Fv : Fld Z h x "java/lang/String" "value" "[B" v0) (Fc : Fld Z h x "java/lang/String" "coder" "B" c0) (Ab : Ary Z h b .char (cs.map Value.int)) (hc : cs.length ≤ 11) (hp : ∀ c ∈ cs, 0 ≤ c.toInt ∧ c.toInt < 256) (h0 : 0 < cs.length) : Con l Z a0 EL it n0 (⟨"java/lang/String", "<init>", "([C)V"⟩ : MethodName) 4 65 1 11 #[.ref x, .ref b] h [x] (fun v h' => v = none ∧ Str Z h' h'.size x cs) := by
  refine Met.con (bytes := jdk_42_method_3_code) (maxL := 2) (ret := none) (rm := ({ frames := 3, cells := 1, slots := 11, locals := 52 } : Room)) (Met.of (own := "java/lang/String") (nm := "<init>") #[.val (.ref x), .val (.ref b)] (ew B) rfl rfl (plainFor_of_name pn_java_lang_String) (fun m => by first | (simp [entryFrame, mkF, argsToLocals, Value.category]; done) | rfl) fun K C => ?_) (B.1 _ (List.mem_of_getElem? (i := 28) rfl)) (B.1 _ (List.mem_of_getElem? (i := 21) rfl)) rfl rfl rfl rfl
  have hn : (Int32.ofNat cs.length).toInt = cs.length := ofNat_int (by omega)
  refine C.aloadN d4_0 rfl rfl ?_
  refine C.aloadN d4_1 rfl rfl ?_
  refine C.iconst (v := (0 : Int32)) d4_2 (by first | rfl | decide) ?_
  refine C.aloadN d4_3 rfl rfl ?_
  refine C.alen (n := (Int32.ofNat cs.length)) Ab (by simpa using hn) d4_4 ?_
  refine C.aconstNull d4_5 ?_
  refine C.callN x [.ref b, .int (0 : Int32), .int (Int32.ofNat cs.length), .null] [] 0 (B.1 _ (List.mem_of_getElem? (i := 29) rfl)) (B.1 _ (List.mem_of_getElem? (i := 30) rfl)) (B.1 _ (List.mem_of_getElem? (i := 32) rfl)) rfl (by decide) pd__28__5b_CIILjava_2f_lang_2f_Void_3b__29_V rfl id (c_init4 B Ex Fv Fc Ab hn hc hp h0) d4_6 rfl rfl rfl (by decide) (by decide) (by decide) (by decide) (allS (List.mem_of_getElem? (i := 0) rfl) all0) fun v1 h1 z1 K1 q1 => ?_
  obtain ⟨rfl, S1⟩ := q1
  show C.W h1 [x] 1 11 (mkF K.m 9 #[.val (.ref x), .val (.ref b)] [])
  exact C.return_ rfl d4_9 (by decide) (by decide) ⟨rfl, S1⟩
set_option maxRecDepth 65536 in
set_option maxHeartbeats 40000000 in
theorem c_coder  (B : Base Z a0) {h : Heap} {x : Nat} {cd : Int32} (Fc : Fld Z h x "java/lang/String" "coder" "B" (.int cd)) (hcd : cd = 0 ∨ cd = 1) : Con l Z a0 EL it n0 (⟨"java/lang/String", "coder", "()B"⟩ : MethodName) 1 12 0 0 #[.ref x] h [] (fun v h' => v = some (.int cd) ∧ h = h') := by
  refine Met.con (bytes := jdk_42_method_152_code) (maxL := 1) (ret := (some .byte)) (rm := ({ frames := 0, cells := 0, slots := 0, locals := 0 } : Room)) (Met.of (own := "java/lang/String") (nm := "coder") #[.val (.ref x)] (ew B) rfl rfl (plainFor_of_name pn_java_lang_String) (fun m => by first | (simp [entryFrame, mkF, argsToLocals, Value.category]; done) | rfl) fun K C => ?_) (B.1 _ (List.mem_of_getElem? (i := 73) rfl)) (B.1 _ (List.mem_of_getElem? (i := 21) rfl)) rfl rfl rfl rfl
  obtain ⟨zc, Sc, hzc⟩ := B.2.1
  refine C.getS (B.1 _ (List.mem_of_getElem? (i := 36) rfl)) Via.refl Sc d5_0 ?_
  refine C.ifc_eq 13 d5_3 (by decide) (by decide) (fun q1 => ?_) (fun q1 => ?_)
  · exfalso; exact hzc (Int32.toInt_inj.mp q1)
  · refine C.aloadN d5_6 rfl rfl ?_
    refine C.getF (host := "") (Or.inl (B.1 _ (List.mem_of_getElem? (i := 48) rfl))) Via.refl Fc d5_7 ?_
    refine C.goto 14 d5_10 (by decide) (by decide) ?_
    exact C.ireturn (t := .byte) rfl (by simp) (by rcases hcd with rfl | rfl <;> rfl) d5_14 (by decide) (by decide) ⟨rfl, rfl⟩
set_option maxRecDepth 65536 in
set_option maxHeartbeats 40000000 in
theorem c_length  (B : Base Z a0) {h : Heap} {N : Nat} {x : Nat} {cs : List Int32} (S : Str Z h N x cs) : Con l Z a0 EL it n0 (⟨"java/lang/String", "length", "()I"⟩ : MethodName) 2 25 0 0 #[.ref x] h [] (fun v h' => v = some (.int (Int32.ofNat cs.length)) ∧ h = h') := by
  refine Met.con (bytes := jdk_42_method_54_code) (maxL := 1) (ret := (some .int)) (rm := ({ frames := 1, cells := 0, slots := 0, locals := 13 } : Room)) (Met.of (own := "java/lang/String") (nm := "length") #[.val (.ref x)] (ew B) rfl rfl (plainFor_of_name pn_java_lang_String) (fun m => by first | (simp [entryFrame, mkF, argsToLocals, Value.category]; done) | rfl) fun K C => ?_) (B.1 _ (List.mem_of_getElem? (i := 68) rfl)) (B.1 _ (List.mem_of_getElem? (i := 21) rfl)) rfl rfl rfl rfl
  obtain ⟨Ex, lx, lN, t, cd, vs, lt, Fv, Fc, At, cod⟩ := S
  have hl := At.len
  have hn : (Int32.ofNat vs.length).toInt = vs.length := ofNat_int hl
  refine C.aloadN d6_0 rfl rfl ?_
  refine C.getF (host := "") (Or.inl (B.1 _ (List.mem_of_getElem? (i := 50) rfl))) Via.refl Fv d6_1 ?_
  refine C.alen (n := (Int32.ofNat vs.length)) At hn d6_4 ?_
  refine C.aloadN d6_5 rfl rfl ?_
  refine C.callV x [] [.int (Int32.ofNat vs.length)] 1 (B.1 _ (List.mem_of_getElem? (i := 69) rfl)) (B.1 _ (List.mem_of_getElem? (i := 70) rfl)) (B.1 _ (List.mem_of_getElem? (i := 72) rfl)) (B.1 _ (List.mem_of_getElem? (i := 71) rfl)) (by decide) rfl Ex pd__28__29_B rfl id (c_coder B Fc cod.cd) d6_6 rfl rfl rfl (by decide) (by decide) (by decide) (by decide) all0 fun v1 h1 z1 K1 q1 => ?_
  obtain ⟨rfl, rfl⟩ := q1
  show C.W h [] 0 0 (mkF K.m 9 #[.val (.ref x)] [.int cd, .int (Int32.ofNat vs.length)])
  refine C.ishr d6_9 ?_
  refine C.topI (show ((Int32.ofNat vs.length) >>> (cd &&& 31)) = (Int32.ofNat cs.length) by exact cod.len hl) ?_
  exact C.ireturn (t := .int) rfl (by simp) rfl d6_10 (by decide) (by decide) ⟨rfl, rfl⟩
set_option maxRecDepth 65536 in
set_option maxHeartbeats 40000000 in
theorem c_isLat  (B : Base Z a0) {h : Heap} {x : Nat} {cd : Int32} (Fc : Fld Z h x "java/lang/String" "coder" "B" (.int cd)) : Con l Z a0 EL it n0 (⟨"java/lang/String", "isLatin1", "()Z"⟩ : MethodName) 1 12 0 0 #[.ref x] h [] (fun v h' => v = some (.int (if cd = 0 then 1 else 0)) ∧ h = h') := by
  refine Met.con (bytes := jdk_42_method_154_code) (maxL := 1) (ret := (some .boolean)) (rm := ({ frames := 0, cells := 0, slots := 0, locals := 0 } : Room)) (Met.of (own := "java/lang/String") (nm := "isLatin1") #[.val (.ref x)] (ew B) rfl rfl (plainFor_of_name pn_java_lang_String) (fun m => by first | (simp [entryFrame, mkF, argsToLocals, Value.category]; done) | rfl) fun K C => ?_) (B.1 _ (List.mem_of_getElem? (i := 83) rfl)) (B.1 _ (List.mem_of_getElem? (i := 21) rfl)) rfl rfl rfl rfl
  obtain ⟨zc, Sc, hzc⟩ := B.2.1
  refine C.getS (B.1 _ (List.mem_of_getElem? (i := 36) rfl)) Via.refl Sc d7_0 ?_
  refine C.ifc_eq 17 d7_3 (by decide) (by decide) (fun q1 => ?_) (fun q1 => ?_)
  · exfalso; exact hzc (Int32.toInt_inj.mp q1)
  · refine C.aloadN d7_6 rfl rfl ?_
    refine C.getF (host := "") (Or.inl (B.1 _ (List.mem_of_getElem? (i := 48) rfl))) Via.refl Fc d7_7 ?_
    refine C.ifc_ne 17 d7_10 (by decide) (by decide) (fun q2 => ?_) (fun q2 => ?_)
    · refine C.iconst (v := (0 : Int32)) d7_17 (by first | rfl | decide) ?_
      exact C.ireturn (t := .boolean) rfl (by simp) rfl d7_18 (by decide) (by decide) ⟨by rw [if_neg (fun e => q2 (by rw [e]; rfl))], rfl⟩
    · refine C.iconst (v := (1 : Int32)) d7_13 (by first | rfl | decide) ?_
      refine C.goto 18 d7_14 (by decide) (by decide) ?_
      exact C.ireturn (t := .boolean) rfl (by simp) rfl d7_18 (by decide) (by decide) ⟨by rw [if_pos (Int32.toInt_inj.mp q2)], rfl⟩
set_option maxRecDepth 65536 in
set_option maxHeartbeats 40000000 in
theorem c_isEmpty  (B : Base Z a0) {h : Heap} {N : Nat} {x : Nat} {cs : List Int32} (S : Str Z h N x cs) : Con l Z a0 EL it n0 (⟨"java/lang/String", "isEmpty", "()Z"⟩ : MethodName) 1 12 0 0 #[.ref x] h [] (fun v h' => v = some (.int (if cs = [] then 1 else 0)) ∧ h = h') := by
  refine Met.con (bytes := jdk_42_method_55_code) (maxL := 1) (ret := (some .boolean)) (rm := ({ frames := 0, cells := 0, slots := 0, locals := 0 } : Room)) (Met.of (own := "java/lang/String") (nm := "isEmpty") #[.val (.ref x)] (ew B) rfl rfl (plainFor_of_name pn_java_lang_String) (fun m => by first | (simp [entryFrame, mkF, argsToLocals, Value.category]; done) | rfl) fun K C => ?_) (B.1 _ (List.mem_of_getElem? (i := 63) rfl)) (B.1 _ (List.mem_of_getElem? (i := 21) rfl)) rfl rfl rfl rfl
  obtain ⟨Ex, lx, lN, t, cd, vs, lt, Fv, Fc, At, cod⟩ := S
  have hl := At.len
  have hn : (Int32.ofNat vs.length).toInt = vs.length := ofNat_int hl
  have hv := cod.nil
  refine C.aloadN d8_0 rfl rfl ?_
  refine C.getF (host := "") (Or.inl (B.1 _ (List.mem_of_getElem? (i := 50) rfl))) Via.refl Fv d8_1 ?_
  refine C.alen (n := (Int32.ofNat vs.length)) At hn d8_4 ?_
  refine C.ifc_ne 12 d8_5 (by decide) (by decide) (fun q1 => ?_) (fun q1 => ?_)
  · refine C.iconst (v := (0 : Int32)) d8_12 (by first | rfl | decide) ?_
    have hne : ¬ cs = [] := fun e => by have := hv.mp e; omega
    exact C.ireturn (t := .boolean) rfl (by simp) rfl d8_13 (by decide) (by decide) ⟨by rw [if_neg hne], rfl⟩
  · refine C.iconst (v := (1 : Int32)) d8_8 (by first | rfl | decide) ?_
    refine C.goto 13 d8_9 (by decide) (by decide) ?_
    have heq : cs = [] := hv.mpr (by omega)
    exact C.ireturn (t := .boolean) rfl (by simp) rfl d8_13 (by decide) (by decide) ⟨by rw [if_pos heq], rfl⟩
set_option maxRecDepth 65536 in
set_option maxHeartbeats 40000000 in
theorem c_pciN  (B : Base Z a0) {h : Heap} {i n : Int32} (h0 : 0 ≤ i.toInt) (h1 : i.toInt < n.toInt) : Con l Z a0 EL it n0 (⟨"jdk/internal/util/Preconditions", "checkIndex", "(IILjava/util/function/BiFunction;)I"⟩ : MethodName) 1 14 0 0 #[.int i, .int n, .null] h [] (fun v h' => v = some (.int i) ∧ h = h') := by
  refine Met.con (bytes := jdk_41_method_11_code) (maxL := 3) (ret := (some .int)) (rm := ({ frames := 0, cells := 0, slots := 0, locals := 0 } : Room)) (Met.of (own := "jdk/internal/util/Preconditions") (nm := "checkIndex") #[.val (.int i), .val (.int n), .val .null] (ew B) rfl rfl (plainFor_of_name pn_jdk_internal_util_Preconditions) (fun m => by first | (simp [entryFrame, mkF, argsToLocals, Value.category]; done) | rfl) fun K C => ?_) (B.1 _ (List.mem_of_getElem? (i := 95) rfl)) (B.1 _ (List.mem_of_getElem? (i := 92) rfl)) rfl rfl rfl rfl
  refine C.iloadN d9_0 rfl ?_
  refine C.ifc_lt 9 d9_1 (by decide) (by decide) (fun q1 => ?_) (fun q1 => ?_)
  · exfalso; omega
  · refine C.iloadN d9_4 rfl ?_
    refine C.iloadN d9_5 rfl ?_
    refine C.icmp_lt 16 d9_6 (by decide) (by decide) (fun q2 => ?_) (fun q2 => ?_)
    · refine C.iloadN d9_16 rfl ?_
      exact C.ireturn (t := .int) rfl (by simp) rfl d9_17 (by decide) (by decide) ⟨rfl, rfl⟩
    · exfalso; omega
set_option maxRecDepth 65536 in
set_option maxHeartbeats 40000000 in
theorem c_pciA  (B : Base Z a0) {h : Heap} {i n : Int32} {g : Nat} (h0 : 0 ≤ i.toInt) (h1 : i.toInt < n.toInt) : Con l Z a0 EL it n0 (⟨"jdk/internal/util/Preconditions", "checkIndex", "(IILjava/util/function/BiFunction;)I"⟩ : MethodName) 1 14 0 0 #[.int i, .int n, .ref g] h [] (fun v h' => v = some (.int i) ∧ h = h') := by
  refine Met.con (bytes := jdk_41_method_11_code) (maxL := 3) (ret := (some .int)) (rm := ({ frames := 0, cells := 0, slots := 0, locals := 0 } : Room)) (Met.of (own := "jdk/internal/util/Preconditions") (nm := "checkIndex") #[.val (.int i), .val (.int n), .val (.ref g)] (ew B) rfl rfl (plainFor_of_name pn_jdk_internal_util_Preconditions) (fun m => by first | (simp [entryFrame, mkF, argsToLocals, Value.category]; done) | rfl) fun K C => ?_) (B.1 _ (List.mem_of_getElem? (i := 95) rfl)) (B.1 _ (List.mem_of_getElem? (i := 92) rfl)) rfl rfl rfl rfl
  refine C.iloadN d9_0 rfl ?_
  refine C.ifc_lt 9 d9_1 (by decide) (by decide) (fun q1 => ?_) (fun q1 => ?_)
  · exfalso; omega
  · refine C.iloadN d9_4 rfl ?_
    refine C.iloadN d9_5 rfl ?_
    refine C.icmp_lt 16 d9_6 (by decide) (by decide) (fun q2 => ?_) (fun q2 => ?_)
    · refine C.iloadN d9_16 rfl ?_
      exact C.ireturn (t := .int) rfl (by simp) rfl d9_17 (by decide) (by decide) ⟨rfl, rfl⟩
    · exfalso; omega
set_option maxRecDepth 65536 in
set_option maxHeartbeats 40000000 in
theorem c_sci  (B : Base Z a0) {h : Heap} {i n : Int32} (h0 : 0 ≤ i.toInt) (h1 : i.toInt < n.toInt) : Con l Z a0 EL it n0 (⟨"java/lang/String", "checkIndex", "(II)V"⟩ : MethodName) 2 27 0 0 #[.int i, .int n] h [] (fun v h' => v = none ∧ h = h') := by
  refine Met.con (bytes := jdk_42_method_155_code) (maxL := 2) (ret := none) (rm := ({ frames := 1, cells := 0, slots := 0, locals := 14 } : Room)) (Met.of (own := "java/lang/String") (nm := "checkIndex") #[.val (.int i), .val (.int n)] (ew B) rfl rfl (plainFor_of_name pn_java_lang_String) (fun m => by first | (simp [entryFrame, mkF, argsToLocals, Value.category]; done) | rfl) fun K C => ?_) (B.1 _ (List.mem_of_getElem? (i := 90) rfl)) (B.1 _ (List.mem_of_getElem? (i := 21) rfl)) rfl rfl rfl rfl
  obtain ⟨fm, Sf, hf⟩ := B.2.2
  rcases ref_cases hf with rfl | ⟨f, rfl⟩
  · skip
    refine C.iloadN d10_0 rfl ?_
    refine C.iloadN d10_1 rfl ?_
    refine C.getS (B.1 _ (List.mem_of_getElem? (i := 91) rfl)) Via.refl Sf d10_2 ?_
    refine C.callS [.int i, .int n, .null] [] 0 (B.1 _ (List.mem_of_getElem? (i := 93) rfl)) (B.1 _ (List.mem_of_getElem? (i := 94) rfl)) (B.1 _ (List.mem_of_getElem? (i := 92) rfl)) (B.1 _ (List.mem_of_getElem? (i := 95) rfl)) (by decide) pd__28_IILjava_2f_util_2f_function_2f_BiFunction_3b__29_I rfl id (c_pciN B h0 h1) d10_5 rfl rfl rfl (by decide) (by decide) (by decide) (by decide) all0 fun v1 h1 z1 K1 q1 => ?_
    obtain ⟨rfl, rfl⟩ := q1
    show C.W h [] 0 0 (mkF K.m 8 #[.val (.int i), .val (.int n)] [.int i])
    refine C.pop rfl d10_8 ?_
    exact C.return_ rfl d10_9 (by decide) (by decide) ⟨rfl, rfl⟩
  · skip
    refine C.iloadN d10_0 rfl ?_
    refine C.iloadN d10_1 rfl ?_
    refine C.getS (B.1 _ (List.mem_of_getElem? (i := 91) rfl)) Via.refl Sf d10_2 ?_
    refine C.callS [.int i, .int n, .ref f] [] 0 (B.1 _ (List.mem_of_getElem? (i := 93) rfl)) (B.1 _ (List.mem_of_getElem? (i := 94) rfl)) (B.1 _ (List.mem_of_getElem? (i := 92) rfl)) (B.1 _ (List.mem_of_getElem? (i := 95) rfl)) (by decide) pd__28_IILjava_2f_util_2f_function_2f_BiFunction_3b__29_I rfl id (c_pciA B h0 h1) d10_5 rfl rfl rfl (by decide) (by decide) (by decide) (by decide) all0 fun v2 h2 z2 K2 q2 => ?_
    obtain ⟨rfl, rfl⟩ := q2
    show C.W h [] 0 0 (mkF K.m 8 #[.val (.int i), .val (.int n)] [.int i])
    refine C.pop rfl d10_8 ?_
    exact C.return_ rfl d10_9 (by decide) (by decide) ⟨rfl, rfl⟩
set_option maxRecDepth 65536 in
set_option maxHeartbeats 40000000 in
theorem c_l1cha  (B : Base Z a0) {h : Heap} {d k : Nat} {i c : Int32} {cs : List Int32} (Ad : Ary Z h d .byte (cs.map fun c => Value.int (lo8 c))) (hi : i.toInt = k) (hc : cs[k]? = some c) (hb : 0 ≤ c.toInt ∧ c.toInt < 256) : Con l Z a0 EL it n0 (⟨"java/lang/StringLatin1", "charAt", "([BI)C"⟩ : MethodName) 3 40 0 0 #[.ref d, .int i] h [] (fun v h' => v = some (.int c) ∧ h = h') := by
  refine Met.con (bytes := jdk_43_method_2_code) (maxL := 2) (ret := (some .char)) (rm := ({ frames := 2, cells := 0, slots := 0, locals := 27 } : Room)) (Met.of (own := "java/lang/StringLatin1") (nm := "charAt") #[.val (.ref d), .val (.int i)] (ew B) rfl rfl (plainFor_of_name pn_java_lang_StringLatin1) (fun m => by first | (simp [entryFrame, mkF, argsToLocals, Value.category]; done) | rfl) fun K C => ?_) (B.1 _ (List.mem_of_getElem? (i := 87) rfl)) (B.1 _ (List.mem_of_getElem? (i := 86) rfl)) rfl rfl rfl rfl
  have lA := Ad.len
  rw [List.length_map] at lA
  have hk : k < cs.length := (List.getElem?_eq_some_iff.mp hc).1
  have em : (Int32.ofNat cs.length).toInt = cs.length := ofNat_int lA
  refine C.iloadN d11_0 rfl ?_
  refine C.aloadN d11_1 rfl rfl ?_
  refine C.alen (n := (Int32.ofNat cs.length)) Ad (by rw [List.length_map]; exact em) d11_2 ?_
  refine C.callS [.int i, .int (Int32.ofNat cs.length)] [] 0 (B.1 _ (List.mem_of_getElem? (i := 88) rfl)) (B.1 _ (List.mem_of_getElem? (i := 89) rfl)) (B.1 _ (List.mem_of_getElem? (i := 21) rfl)) (B.1 _ (List.mem_of_getElem? (i := 90) rfl)) (by decide) pd__28_II_29_V rfl id (c_sci B (by omega) (by omega)) d11_3 rfl rfl rfl (by decide) (by decide) (by decide) (by decide) all0 fun v1 h1 z1 K1 q1 => ?_
  obtain ⟨rfl, rfl⟩ := q1
  show C.W h [] 0 0 (mkF K.m 6 #[.val (.ref d), .val (.int i)] [])
  refine C.aloadN d11_6 rfl rfl ?_
  refine C.iloadN d11_7 rfl ?_
  refine C.baload (x := (lo8 c)) k Ad hi (by simp [hc]) d11_8 ?_
  refine C.sipush (v := (255 : Int32)) d11_9 (by first | rfl | decide) ?_
  refine C.iand d11_12 ?_
  refine C.i2c d11_13 ?_
  refine C.topI (show ((lo8 c) &&& (255 : Int32)).toUInt32.toUInt16.toUInt32.toInt32 = c by have q := lo8_and c; have e : (lo8 c &&& 255) = c := Int32.toInt_inj.mp (by omega); rw [e]; exact i2c_id (by omega) (by omega)) ?_
  exact C.ireturn (t := .char) rfl (by simp) (nchar (by omega) (by omega)) d11_14 (by decide) (by decide) ⟨rfl, rfl⟩
set_option maxRecDepth 65536 in
set_option maxHeartbeats 40000000 in
theorem c_charAt  (B : Base Z a0) {h : Heap} {N k : Nat} {x : Nat} {i c : Int32} {cs : List Int32} (S : Str Z h N x cs) (hi : i.toInt = k) (hc : cs[k]? = some c) (hl : Lat cs) : Con l Z a0 EL it n0 (⟨"java/lang/String", "charAt", "(I)C"⟩ : MethodName) 4 53 0 0 #[.ref x, .int i] h [] (fun v h' => v = some (.int c) ∧ h = h') := by
  refine Met.con (bytes := jdk_42_method_56_code) (maxL := 2) (ret := (some .char)) (rm := ({ frames := 3, cells := 0, slots := 0, locals := 40 } : Room)) (Met.of (own := "java/lang/String") (nm := "charAt") #[.val (.ref x), .val (.int i)] (ew B) rfl rfl (plainFor_of_name pn_java_lang_String) (fun m => by first | (simp [entryFrame, mkF, argsToLocals, Value.category]; done) | rfl) fun K C => ?_) (B.1 _ (List.mem_of_getElem? (i := 78) rfl)) (B.1 _ (List.mem_of_getElem? (i := 21) rfl)) rfl rfl rfl rfl
  obtain ⟨Ex, lx1, lx2, tx, cx, vx, ltx, Vx, Cx, Ax, codx⟩ := S
  refine C.aloadN d12_0 rfl rfl ?_
  refine C.callV x [] [] 0 (B.1 _ (List.mem_of_getElem? (i := 79) rfl)) (B.1 _ (List.mem_of_getElem? (i := 80) rfl)) (B.1 _ (List.mem_of_getElem? (i := 82) rfl)) (B.1 _ (List.mem_of_getElem? (i := 81) rfl)) (by decide) rfl Ex pd__28__29_Z rfl id (c_isLat B Cx) d12_1 rfl rfl rfl (by decide) (by decide) (by decide) (by decide) all0 fun v1 h1 z1 K1 q1 => ?_
  obtain ⟨rfl, rfl⟩ := q1
  show C.W h [] 0 0 (mkF K.m 4 #[.val (.ref x), .val (.int i)] [.int (if cx = 0 then (1 : Int32) else 0)])
  refine C.ifc_eq 16 d12_4 (by decide) (by decide) (fun q2 => ?_) (fun q2 => ?_)
  · exfalso
    rw [if_pos (codx.lat hl).1] at q2
    revert q2; decide
  · have hcx : cx = 0 := Classical.byContradiction fun e => by rw [if_neg e] at q2; exact q2 rfl
    obtain ⟨rfl, hpx⟩ := codx.lo hcx
    have hb := hpx c (List.mem_of_getElem? hc)
    refine C.aloadN d12_7 rfl rfl ?_
    refine C.getF (host := "") (Or.inl (B.1 _ (List.mem_of_getElem? (i := 50) rfl))) Via.refl Vx d12_8 ?_
    refine C.iloadN d12_11 rfl ?_
    refine C.callS [.ref tx, .int i] [] 0 (B.1 _ (List.mem_of_getElem? (i := 84) rfl)) (B.1 _ (List.mem_of_getElem? (i := 85) rfl)) (B.1 _ (List.mem_of_getElem? (i := 86) rfl)) (B.1 _ (List.mem_of_getElem? (i := 87) rfl)) (by decide) pd__28__5b_BI_29_C rfl id (c_l1cha B Ax hi hc hb) d12_12 rfl rfl rfl (by decide) (by decide) (by decide) (by decide) all0 fun v3 h3 z3 K3 q3 => ?_
    obtain ⟨rfl, rfl⟩ := q3
    show C.W h [] 0 0 (mkF K.m 15 #[.val (.ref x), .val (.int i)] [.int c])
    exact C.ireturn (t := .char) rfl (by simp) (nchar (by omega) (by omega)) d12_15 (by decide) (by decide) ⟨rfl, rfl⟩
def dv (a : Int) : List Int32 → Int
  | [] => a
  | c :: cs => dv (10 * a + (c.toInt - 48)) cs
theorem dv_app (a : Int) (xs ys : List Int32) : dv a (xs ++ ys) = dv (dv a xs) ys := by
  induction xs generalizing a with
  | nil => rfl
  | cons c xs ih => exact ih _
theorem dv_le {a : Int} {cs : List Int32} (ha : 0 ≤ a) (hd : ∀ c ∈ cs, 48 ≤ c.toInt ∧ c.toInt ≤ 57) : a ≤ dv a cs := by
  induction cs generalizing a with
  | nil => exact Int.le_refl _
  | cons c cs ih =>
    have h1 := hd c (List.mem_cons_self ..)
    have h2 := ih (a := 10 * a + (c.toInt - 48)) (by omega) fun z hz => hd z (List.mem_cons_of_mem _ hz)
    show a ≤ dv (10 * a + (c.toInt - 48)) cs
    omega
theorem dv_pre {cs : List Int32} {k : Nat} (hd : ∀ c ∈ cs, 48 ≤ c.toInt ∧ c.toInt ≤ 57) : 0 ≤ dv 0 (cs.take k) ∧ dv 0 (cs.take k) ≤ dv 0 cs := by
  have e : dv 0 cs = dv (dv 0 (cs.take k)) (cs.drop k) := by rw [← dv_app, List.take_append_drop]
  have h0 : 0 ≤ dv 0 (cs.take k) := dv_le (Int.le_refl 0) fun c hc => hd c (List.mem_of_mem_take hc)
  exact ⟨h0, by rw [e]; exact dv_le h0 fun c hc => hd c (List.mem_of_mem_drop hc)⟩
theorem dv_step {cs : List Int32} {k : Nat} {c : Int32} (hc : cs[k]? = some c) : dv 0 (cs.take (k + 1)) = 10 * dv 0 (cs.take k) + (c.toInt - 48) := by
  rw [List.take_add_one, hc, dv_app]; rfl
theorem bm64s {x : Int} {y : Int} (h : (x - y) % 18446744073709551616 = 0) (h1 : -9223372036854775808 ≤ x) (h2 : x < 9223372036854775808) (h3 : -9223372036854775808 ≤ y) (h4 : y < 9223372036854775808) : x = y := by omega
theorem ladd_int {x y : Int64} (h1 : -9223372036854775808 ≤ x.toInt + y.toInt) (h2 : x.toInt + y.toInt < 9223372036854775808) : (x + y).toInt = x.toInt + y.toInt := bm64s (c_ladd x y) (Int64.le_toInt _) (Int64.toInt_lt _) h1 h2
theorem lsub_int {x y : Int64} (h1 : -9223372036854775808 ≤ x.toInt - y.toInt) (h2 : x.toInt - y.toInt < 9223372036854775808) : (x - y).toInt = x.toInt - y.toInt := bm64s (c_lsub x y) (Int64.le_toInt _) (Int64.toInt_lt _) h1 h2
theorem lmul_int {x y : Int64} (h1 : -9223372036854775808 ≤ x.toInt * y.toInt) (h2 : x.toInt * y.toInt < 9223372036854775808) : (x * y).toInt = x.toInt * y.toInt := bm64s (c_lmul x y) (Int64.le_toInt _) (Int64.toInt_lt _) h1 h2
theorem l2i_int {x : Int64} (h1 : -2147483648 ≤ x.toInt) (h2 : x.toInt < 2147483648) : x.toInt32.toInt = x.toInt := by
  have q := c_l2i x
  have q1 := Int32.le_toInt x.toInt32
  have q2 := Int32.toInt_lt x.toInt32
  omega
theorem lrem_int {x y : Int64} (h : 0 ≤ x.toInt) : (x % y).toInt = x.toInt % y.toInt := by
  rw [Int64.toInt_mod]
  exact Int.tmod_eq_emod_of_nonneg h
theorem ldiv_int {x y : Int64} (h : 0 ≤ x.toInt) (hy : 0 < y.toInt) : (x / y).toInt = x.toInt / y.toInt := (c_ldiv x y y.toInt rfl (fun e => by rw [e] at hy; revert hy; decide)).1 h
theorem step10 {t ten : Int64} {c k48 : Int32} (ht0 : 0 ≤ t.toInt) (ht1 : t.toInt < 2147483648) (h10 : ten.toInt = 10) (hc : 48 ≤ c.toInt ∧ c.toInt ≤ 57) (h48 : k48.toInt = 48) : (t * ten + (c - k48).toInt64).toInt = 10 * t.toInt + (c.toInt - 48) := by
  have e1 : (t * ten).toInt = t.toInt * 10 := by rw [lmul_int (by rw [h10]; omega) (by rw [h10]; omega), h10]
  have e2 : (c - k48).toInt64.toInt = c.toInt - 48 := by rw [c_i2l, sub_int (by omega) (by omega), h48]
  rw [ladd_int (by omega) (by omega), e1, e2]
  omega
theorem digit_step (V m : Int) (hm : 0 < m) : V / m = 10 * (V / (m * 10)) + V / m % 10 := by
  rw [← Int.ediv_ediv_of_nonneg (Int.le_of_lt hm)]
  omega
def Dg (V P : Int) (c : Int32) : Prop := c.toInt = 48 + V / P % 10
theorem Dg.lit {V P R : Int} {c : Int32} (D : Dg V P c) (h : P = R) : c.toInt = 48 + V / R % 10 := by rw [← h]; exact D
theorem land31 (x : Int64) : 0 ≤ (x &&& 2147483647).toInt ∧ (x &&& 2147483647).toInt < 2147483648 := by
  have e : ((2 ^ 31 : Nat) : Int) = 2147483648 := by decide
  rw [c_maskL x 2147483647 31 (by decide) (by decide), e]
  omega
theorem emod3 {a b : Int} (ha : 0 ≤ a) (hb : 0 < b) : 0 ≤ a % b ∧ a % b < b ∧ a % b ≤ a := by
  refine ⟨Int.emod_nonneg a (by omega), Int.emod_lt_of_pos a hb, ?_⟩
  have h := Int.mul_ediv_add_emod a b
  have q := Int.mul_nonneg (Int.le_of_lt hb) (Int.ediv_nonneg ha (Int.le_of_lt hb))
  omega
theorem dg_chr {x : Int32} {V P : Int} (k : x.toInt = 48 + V / P % 10) : (48 ≤ x.toUInt32.toUInt16.toUInt32.toInt32.toInt ∧ x.toUInt32.toUInt16.toUInt32.toInt32.toInt ≤ 57) ∧ Dg V P x.toUInt32.toUInt16.toUInt32.toInt32 := by
  have b : 0 ≤ V / P % 10 ∧ V / P % 10 < 10 := ⟨Int.emod_nonneg _ (by decide), Int.emod_lt_of_pos _ (by decide)⟩
  rw [i2c_id (by omega) (by omega)]
  exact ⟨by omega, k⟩
theorem dg_l {u p : Int64} (h0 : 0 ≤ u.toInt) (hp : 0 < p.toInt) : ((48 : Int32) + (u / p % (10 : Int64)).toInt32).toInt = 48 + u.toInt / p.toInt % 10 := by
  have e1 := ldiv_int (x := u) (y := p) h0 hp
  have n1 : 0 ≤ (u / p).toInt := by rw [e1]; exact Int.ediv_nonneg h0 (Int.le_of_lt hp)
  have e2 : (u / p % (10 : Int64)).toInt = u.toInt / p.toInt % 10 := by rw [lrem_int n1, e1]; rfl
  have b : 0 ≤ u.toInt / p.toInt % 10 ∧ u.toInt / p.toInt % 10 < 10 := ⟨Int.emod_nonneg _ (by decide), Int.emod_lt_of_pos _ (by decide)⟩
  have k48 : (48 : Int32).toInt = 48 := by decide
  have e3 : (u / p % (10 : Int64)).toInt32.toInt = u.toInt / p.toInt % 10 := by rw [l2i_int (by omega) (by omega), e2]
  rw [add_int (by omega) (by omega), e3, k48]
theorem dg_i {u p : Int32} (h0 : 0 ≤ u.toInt) (hp : 0 < p.toInt) : ((48 : Int32) + (u / p % (10 : Int32))).toInt = 48 + u.toInt / p.toInt % 10 := by
  have e1 : (u / p).toInt = u.toInt / p.toInt := (c_idiv u p p.toInt rfl (fun e => by rw [e] at hp; revert hp; decide)).1 h0
  have n1 : 0 ≤ (u / p).toInt := by rw [e1]; exact Int.ediv_nonneg h0 (Int.le_of_lt hp)
  have e2 : (u / p % (10 : Int32)).toInt = u.toInt / p.toInt % 10 := by rw [(c_irem (u / p) 10 10 (by decide)).1 n1, e1]
  have b : 0 ≤ u.toInt / p.toInt % 10 ∧ u.toInt / p.toInt % 10 < 10 := ⟨Int.emod_nonneg _ (by decide), Int.emod_lt_of_pos _ (by decide)⟩
  have k48 : (48 : Int32).toInt = 48 := by decide
  rw [add_int (by omega) (by omega), e2, k48]
theorem min_ok {w x : Int64} (h0 : 0 ≤ w.toInt) (h1 : w.toInt < 2147483648) : 0 ≤ (w - (x &&& (2147483647 : Int64)) % (w + (1 : Int64))).toInt ∧ (w - (x &&& (2147483647 : Int64)) % (w + (1 : Int64))).toInt ≤ w.toInt := by
  have k1 : (1 : Int64).toInt = 1 := by decide
  have e1 : (w + (1 : Int64)).toInt = w.toInt + 1 := by rw [ladd_int (by omega) (by omega), k1]
  have l := land31 x
  have e2 := lrem_int (x := x &&& (2147483647 : Int64)) (y := w + (1 : Int64)) l.1
  have q := emod3 (a := (x &&& (2147483647 : Int64)).toInt) (b := (w + (1 : Int64)).toInt) l.1 (by omega)
  rw [← e2] at q
  have e3 := lsub_int (x := w) (y := (x &&& (2147483647 : Int64)) % (w + (1 : Int64))) (by omega) (by omega)
  omega
theorem max_ok {w x : Int64} (h0 : 0 ≤ w.toInt) (h1 : w.toInt < 2147483648) : w.toInt ≤ (w + (x &&& (2147483647 : Int64)) % ((2147483648 : Int64) - w)).toInt ∧ (w + (x &&& (2147483647 : Int64)) % ((2147483648 : Int64) - w)).toInt < 2147483648 := by
  have k1 : (2147483648 : Int64).toInt = 2147483648 := by decide
  have e1 : ((2147483648 : Int64) - w).toInt = 2147483648 - w.toInt := by rw [lsub_int (by omega) (by omega), k1]
  have l := land31 x
  have e2 := lrem_int (x := x &&& (2147483647 : Int64)) (y := (2147483648 : Int64) - w) l.1
  have q := emod3 (a := (x &&& (2147483647 : Int64)).toInt) (b := ((2147483648 : Int64) - w).toInt) l.1 (by omega)
  rw [← e2] at q
  have e3 := ladd_int (x := w) (y := (x &&& (2147483647 : Int64)) % ((2147483648 : Int64) - w)) (by omega) (by omega)
  omega
theorem nz64 {x : Int64} (h : 0 < x.toInt) : x ≠ 0 := fun e => by rw [e] at h; exact absurd h (by decide)
set_option maxRecDepth 65536 in
set_option maxHeartbeats 40000000 in
theorem c_parse  (B : Base Z a0) {h : Heap} {N x y : Nat} {mn mx : Int32} {cs : List Int32} (S : Str Z h N x cs) (hl : 0 < cs.length ∧ cs.length ≤ 11) (hd : ∀ c ∈ cs, 48 ≤ c.toInt ∧ c.toInt ≤ 57) (h1 : mn.toInt ≤ dv 0 cs) (h2 : dv 0 cs ≤ mx.toInt) : Con l Z a0 EL it n0 (⟨"com/example/quire/quire/catalogue/WholeNumber", "parse", "(Ljava/lang/String;Ljava/lang/String;II)I"⟩ : MethodName) 5 72 0 0 #[.ref x, .ref y, .int mn, .int mx] h [] (fun v h' => ∃ r : Int32, v = some (.int r) ∧ r.toInt = dv 0 cs ∧ h = h') := by
  refine Met.con (bytes := prog_18_method_3_code) (maxL := 8) (ret := (some .int)) (rm := ({ frames := 4, cells := 0, slots := 0, locals := 53 } : Room)) (Met.of (own := "com/example/quire/quire/catalogue/WholeNumber") (nm := "parse") #[.val (.ref x), .val (.ref y), .val (.int mn), .val (.int mx), .unset, .unset, .unset, .unset] (ew B) rfl rfl (plainFor_of_name pn_com_example_quire_quire_catalogue_WholeNumber) (fun m => by first | (simp [entryFrame, mkF, argsToLocals, Value.category]; done) | rfl) fun K C => ?_) (B.1 _ (List.mem_of_getElem? (i := 58) rfl)) (B.1 _ (List.mem_of_getElem? (i := 57) rfl)) rfl rfl rfl rfl
  have Ex := S.exa
  have en : (Int32.ofNat cs.length).toInt = cs.length := ofNat_int (by omega)
  have hne : ¬ cs = [] := fun e => by rw [e] at hl; simp at hl
  have hmx := Int32.toInt_lt mx
  have hla : Lat cs := fun c hc => by have := hd c hc; omega
  have k48 : (48 : Int32).toInt = 48 := by decide
  have k57 : (57 : Int32).toInt = 57 := by decide
  have l10 : (10 : Int64).toInt = 10 := by decide
  refine C.aloadN d13_0 rfl rfl ?_
  refine C.callV x [] [] 0 (B.1 _ (List.mem_of_getElem? (i := 59) rfl)) (B.1 _ (List.mem_of_getElem? (i := 60) rfl)) (B.1 _ (List.mem_of_getElem? (i := 62) rfl)) (B.1 _ (List.mem_of_getElem? (i := 61) rfl)) (by decide) rfl Ex pd__28__29_Z rfl id (c_isEmpty B S) d13_1 rfl rfl rfl (by decide) (by decide) (by decide) (by decide) all0 fun v1 h1 z1 K1 q1 => ?_
  obtain ⟨rfl, rfl⟩ := q1
  show C.W h [] 0 0 (mkF K.m 4 #[.val (.ref x), .val (.ref y), .val (.int mn), .val (.int mx), .unset, .unset, .unset, .unset] [.int (if cs = [] then (1 : Int32) else 0)])
  refine C.ifc_eq 15 d13_4 (by decide) (by decide) (fun q3 => ?_) (fun q3 => ?_)
  · have hb2 : ¬ (cs = []) := fun e => by rw [if_pos e] at q3; revert q3; decide
    refine C.lconst (v := (0 : Int64)) d13_15 (by first | rfl | decide) ?_
    refine C.lstore #[.val (.ref x), .val (.ref y), .val (.int mn), .val (.int mx), .val (.long (0 : Int64)), .second, .unset, .unset] d13_16 rfl ?_
    refine C.iconst (v := (0 : Int32)) d13_18 (by first | rfl | decide) ?_
    refine C.istore #[.val (.ref x), .val (.ref y), .val (.int mn), .val (.int mx), .val (.long (0 : Int64)), .second, .val (.int (0 : Int32)), .unset] d13_19 rfl ?_
    suffices LOOP : ∀ (j k : Nat) (t : Int64) (s7 : Slot), j + k = cs.length → One s7 → t.toInt = dv 0 (cs.take k) → C.W h [] 0 0 (mkF K.m 21 #[.val (.ref x), .val (.ref y), .val (.int mn), .val (.int mx), .val (.long t), .second, .val (.int (Int32.ofNat k)), s7] []) from LOOP cs.length 0 _ .unset (by omega) One.u rfl
    intro j
    induction j with
    | zero =>
      intro k t s7 hjk h7 ht
      have ek : (Int32.ofNat k).toInt = k := ofNat_int (by omega)
      have pre := dv_pre (k := k) hd
      refine C.iload d13_21 rfl ?_
      refine C.aloadN d13_23 rfl rfl ?_
      refine C.callV x [] [.int (Int32.ofNat k)] 1 (B.1 _ (List.mem_of_getElem? (i := 64) rfl)) (B.1 _ (List.mem_of_getElem? (i := 65) rfl)) (B.1 _ (List.mem_of_getElem? (i := 67) rfl)) (B.1 _ (List.mem_of_getElem? (i := 66) rfl)) (by decide) rfl Ex pd__28__29_I rfl id (c_length B S) d13_24 rfl rfl rfl (by decide) (by decide) (by decide) (by decide) all0 fun v4 h4 z4 K4 q4 => ?_
      obtain ⟨rfl, rfl⟩ := q4
      show C.W h [] 0 0 (mkF K.m 27 #[.val (.ref x), .val (.ref y), .val (.int mn), .val (.int mx), .val (.long t), .second, .val (.int (Int32.ofNat k)), s7] [.int (Int32.ofNat cs.length), .int (Int32.ofNat k)])
      refine C.icmp_ge 97 d13_27 (by decide) (by decide) (fun q5 => ?_) (fun q5 => ?_)
      · rw [List.take_of_length_le (by omega)] at ht
        have q1 := c_lcmp t mn.toInt64
        rw [c_i2l] at q1
        refine C.lload d13_97 rfl ?_
        refine C.iloadN d13_99 rfl ?_
        refine C.i2l d13_100 ?_
        refine C.lcmp d13_101 ?_
        refine C.ifc_ge 113 d13_102 (by decide) (by decide) (fun q6 => ?_) (fun q6 => ?_)
        · refine C.lload d13_113 rfl ?_
          refine C.l2i d13_115 ?_
          exact C.ireturn (t := .int) rfl (by simp) rfl d13_116 (by decide) (by decide) ⟨_, rfl, by rw [l2i_int (by omega) (by omega), ht], rfl⟩
        · exfalso; omega
      · exfalso; omega
    | succ j ih =>
      intro k t s7 hjk h7 ht
      have ek : (Int32.ofNat k).toInt = k := ofNat_int (by omega)
      have pre := dv_pre (k := k) hd
      refine C.iload d13_21 rfl ?_
      refine C.aloadN d13_23 rfl rfl ?_
      refine C.callV x [] [.int (Int32.ofNat k)] 1 (B.1 _ (List.mem_of_getElem? (i := 64) rfl)) (B.1 _ (List.mem_of_getElem? (i := 65) rfl)) (B.1 _ (List.mem_of_getElem? (i := 67) rfl)) (B.1 _ (List.mem_of_getElem? (i := 66) rfl)) (by decide) rfl Ex pd__28__29_I rfl id (c_length B S) d13_24 rfl rfl rfl (by decide) (by decide) (by decide) (by decide) all0 fun v7 h7 z7 K7 q7 => ?_
      obtain ⟨rfl, rfl⟩ := q7
      show C.W h [] 0 0 (mkF K.m 27 #[.val (.ref x), .val (.ref y), .val (.int mn), .val (.int mx), .val (.long t), .second, .val (.int (Int32.ofNat k)), s7] [.int (Int32.ofNat cs.length), .int (Int32.ofNat k)])
      refine C.icmp_ge 97 d13_27 (by decide) (by decide) (fun q8 => ?_) (fun q8 => ?_)
      · exfalso; omega
      · obtain ⟨c, hc⟩ : ∃ c, cs[k]? = some c := ⟨_, List.getElem?_eq_getElem (by omega)⟩
        have hcd := hd c (List.mem_of_getElem? hc)
        have hst := dv_step hc
        have pre2 := dv_pre (k := k + 1) hd
        have qten := step10 (t := t) (ten := 10) (c := c) (k48 := 48) (by omega) (by omega) l10 hcd k48
        refine C.aloadN d13_30 rfl rfl ?_
        refine C.iload d13_31 rfl ?_
        refine C.callV x [.int (Int32.ofNat k)] [] 0 (B.1 _ (List.mem_of_getElem? (i := 74) rfl)) (B.1 _ (List.mem_of_getElem? (i := 75) rfl)) (B.1 _ (List.mem_of_getElem? (i := 77) rfl)) (B.1 _ (List.mem_of_getElem? (i := 76) rfl)) (by decide) rfl Ex pd__28_I_29_C rfl id (c_charAt B S ek hc hla) d13_33 rfl rfl rfl (by decide) (by decide) (by decide) (by decide) all0 fun v9 h9 z9 K9 q9 => ?_
        obtain ⟨rfl, rfl⟩ := q9
        show C.W h [] 0 0 (mkF K.m 36 #[.val (.ref x), .val (.ref y), .val (.int mn), .val (.int mx), .val (.long t), .second, .val (.int (Int32.ofNat k)), s7] [.int c])
        refine C.istore #[.val (.ref x), .val (.ref y), .val (.int mn), .val (.int mx), .val (.long t), .second, .val (.int (Int32.ofNat k)), .val (.int c)] d13_36 (XS.store1 rfl h7 rfl) ?_
        refine C.iload d13_38 rfl ?_
        refine C.bipush (v := (48 : Int32)) d13_40 (by first | rfl | decide) ?_
        refine C.icmp_lt 52 d13_42 (by decide) (by decide) (fun q10 => ?_) (fun q10 => ?_)
        · exfalso; omega
        · refine C.iload d13_45 rfl ?_
          refine C.bipush (v := (57 : Int32)) d13_47 (by first | rfl | decide) ?_
          refine C.icmp_le 60 d13_49 (by decide) (by decide) (fun q11 => ?_) (fun q11 => ?_)
          · refine C.lload d13_60 rfl ?_
            refine C.ldc2Long (v := (10 : Int64)) (B.1 _ (List.mem_of_getElem? (i := 96) rfl)) d13_62 ?_
            refine C.lmul d13_65 ?_
            refine C.iload d13_66 rfl ?_
            refine C.bipush (v := (48 : Int32)) d13_68 (by first | rfl | decide) ?_
            refine C.isub d13_70 ?_
            refine C.i2l d13_71 ?_
            refine C.ladd d13_72 ?_
            refine C.lstore #[.val (.ref x), .val (.ref y), .val (.int mn), .val (.int mx), .val (.long ((t * (10 : Int64)) + (c - (48 : Int32)).toInt64)), .second, .val (.int (Int32.ofNat k)), .val (.int c)] d13_73 rfl ?_
            refine C.lload d13_75 rfl ?_
            refine C.iloadN d13_77 rfl ?_
            refine C.i2l d13_78 ?_
            refine C.lcmp d13_79 ?_
            have q2 := c_lcmp (t * (10 : Int64) + (c - (48 : Int32)).toInt64) mx.toInt64
            rw [c_i2l] at q2
            refine C.ifc_le 91 d13_80 (by decide) (by decide) (fun q12 => ?_) (fun q12 => ?_)
            · refine C.iinc (z := (1 : Int32)) #[.val (.ref x), .val (.ref y), .val (.int mn), .val (.int mx), .val (.long ((t * (10 : Int64)) + (c - (48 : Int32)).toInt64)), .second, .val (.int ((Int32.ofNat k) + (1 : Int32))), .val (.int c)] d13_91 rfl (by first | rfl | decide) rfl ?_
              refine C.goto 21 d13_94 (by decide) (by decide) ?_
              rw [ofNat_succ]
              exact ih (k + 1) _ _ (by omega) (One.val rfl) (by rw [qten, hst, ht])
            · exfalso; omega
          · exfalso; omega
  · have hb2 : cs = [] := Classical.byContradiction fun e => by rw [if_neg e] at q3; exact q3 rfl
    exfalso; exact hne hb2
theorem dig1 {V : Int} {c0 : Int32} (e0 : c0.toInt = 48 + V / 1 % 10) : dv 0 [c0] = V % 10 := by
  have o : V / 1 = V := Int.ediv_one V
  have s0 : V / 1 = 10 * (V / 10) + V / 1 % 10 := digit_step V 1 (by decide)
  rw [o] at s0 e0
  have f0 : c0.toInt - 48 = V - 10 * (V / 10) := by omega
  clear e0 s0
  show (10 * 0 + (c0.toInt - 48)) = V % 10
  rw [f0]
  omega
theorem dig2 {V : Int} {c0 c1 : Int32} (e0 : c0.toInt = 48 + V / 10 % 10) (e1 : c1.toInt = 48 + V / 1 % 10) : dv 0 [c0, c1] = V % 100 := by
  have o : V / 1 = V := Int.ediv_one V
  have s0 : V / 10 = 10 * (V / 100) + V / 10 % 10 := digit_step V 10 (by decide)
  have s1 : V / 1 = 10 * (V / 10) + V / 1 % 10 := digit_step V 1 (by decide)
  rw [o] at s1 e1
  have f0 : c0.toInt - 48 = V / 10 - 10 * (V / 100) := by omega
  have f1 : c1.toInt - 48 = V - 10 * (V / 10) := by omega
  clear e0 e1 s0 s1
  show (10 * (10 * 0 + (c0.toInt - 48)) + (c1.toInt - 48)) = V % 100
  rw [f0]
  rw [f1]
  generalize V / 10 = d10
  omega
theorem dig3 {V : Int} {c0 c1 c2 : Int32} (e0 : c0.toInt = 48 + V / 100 % 10) (e1 : c1.toInt = 48 + V / 10 % 10) (e2 : c2.toInt = 48 + V / 1 % 10) : dv 0 [c0, c1, c2] = V % 1000 := by
  have o : V / 1 = V := Int.ediv_one V
  have s0 : V / 100 = 10 * (V / 1000) + V / 100 % 10 := digit_step V 100 (by decide)
  have s1 : V / 10 = 10 * (V / 100) + V / 10 % 10 := digit_step V 10 (by decide)
  have s2 : V / 1 = 10 * (V / 10) + V / 1 % 10 := digit_step V 1 (by decide)
  rw [o] at s2 e2
  have f0 : c0.toInt - 48 = V / 100 - 10 * (V / 1000) := by omega
  have f1 : c1.toInt - 48 = V / 10 - 10 * (V / 100) := by omega
  have f2 : c2.toInt - 48 = V - 10 * (V / 10) := by omega
  clear e0 e1 e2 s0 s1 s2
  show (10 * (10 * (10 * 0 + (c0.toInt - 48)) + (c1.toInt - 48)) + (c2.toInt - 48)) = V % 1000
  rw [f0]
  rw [f1]
  rw [f2]
  generalize V / 100 = d100
  generalize V / 10 = d10
  omega
theorem dig4 {V : Int} {c0 c1 c2 c3 : Int32} (e0 : c0.toInt = 48 + V / 1000 % 10) (e1 : c1.toInt = 48 + V / 100 % 10) (e2 : c2.toInt = 48 + V / 10 % 10) (e3 : c3.toInt = 48 + V / 1 % 10) : dv 0 [c0, c1, c2, c3] = V % 10000 := by
  have o : V / 1 = V := Int.ediv_one V
  have s0 : V / 1000 = 10 * (V / 10000) + V / 1000 % 10 := digit_step V 1000 (by decide)
  have s1 : V / 100 = 10 * (V / 1000) + V / 100 % 10 := digit_step V 100 (by decide)
  have s2 : V / 10 = 10 * (V / 100) + V / 10 % 10 := digit_step V 10 (by decide)
  have s3 : V / 1 = 10 * (V / 10) + V / 1 % 10 := digit_step V 1 (by decide)
  rw [o] at s3 e3
  have f0 : c0.toInt - 48 = V / 1000 - 10 * (V / 10000) := by omega
  have f1 : c1.toInt - 48 = V / 100 - 10 * (V / 1000) := by omega
  have f2 : c2.toInt - 48 = V / 10 - 10 * (V / 100) := by omega
  have f3 : c3.toInt - 48 = V - 10 * (V / 10) := by omega
  clear e0 e1 e2 e3 s0 s1 s2 s3
  show (10 * (10 * (10 * (10 * 0 + (c0.toInt - 48)) + (c1.toInt - 48)) + (c2.toInt - 48)) + (c3.toInt - 48)) = V % 10000
  rw [f0]
  rw [f1]
  rw [f2]
  rw [f3]
  generalize V / 1000 = d1000
  generalize V / 100 = d100
  generalize V / 10 = d10
  omega
theorem dig5 {V : Int} {c0 c1 c2 c3 c4 : Int32} (e0 : c0.toInt = 48 + V / 10000 % 10) (e1 : c1.toInt = 48 + V / 1000 % 10) (e2 : c2.toInt = 48 + V / 100 % 10) (e3 : c3.toInt = 48 + V / 10 % 10) (e4 : c4.toInt = 48 + V / 1 % 10) : dv 0 [c0, c1, c2, c3, c4] = V % 100000 := by
  have o : V / 1 = V := Int.ediv_one V
  have s0 : V / 10000 = 10 * (V / 100000) + V / 10000 % 10 := digit_step V 10000 (by decide)
  have s1 : V / 1000 = 10 * (V / 10000) + V / 1000 % 10 := digit_step V 1000 (by decide)
  have s2 : V / 100 = 10 * (V / 1000) + V / 100 % 10 := digit_step V 100 (by decide)
  have s3 : V / 10 = 10 * (V / 100) + V / 10 % 10 := digit_step V 10 (by decide)
  have s4 : V / 1 = 10 * (V / 10) + V / 1 % 10 := digit_step V 1 (by decide)
  rw [o] at s4 e4
  have f0 : c0.toInt - 48 = V / 10000 - 10 * (V / 100000) := by omega
  have f1 : c1.toInt - 48 = V / 1000 - 10 * (V / 10000) := by omega
  have f2 : c2.toInt - 48 = V / 100 - 10 * (V / 1000) := by omega
  have f3 : c3.toInt - 48 = V / 10 - 10 * (V / 100) := by omega
  have f4 : c4.toInt - 48 = V - 10 * (V / 10) := by omega
  clear e0 e1 e2 e3 e4 s0 s1 s2 s3 s4
  show (10 * (10 * (10 * (10 * (10 * 0 + (c0.toInt - 48)) + (c1.toInt - 48)) + (c2.toInt - 48)) + (c3.toInt - 48)) + (c4.toInt - 48)) = V % 100000
  rw [f0]
  rw [f1]
  rw [f2]
  rw [f3]
  rw [f4]
  generalize V / 10000 = d10000
  generalize V / 1000 = d1000
  generalize V / 100 = d100
  generalize V / 10 = d10
  omega
theorem dig6 {V : Int} {c0 c1 c2 c3 c4 c5 : Int32} (e0 : c0.toInt = 48 + V / 100000 % 10) (e1 : c1.toInt = 48 + V / 10000 % 10) (e2 : c2.toInt = 48 + V / 1000 % 10) (e3 : c3.toInt = 48 + V / 100 % 10) (e4 : c4.toInt = 48 + V / 10 % 10) (e5 : c5.toInt = 48 + V / 1 % 10) : dv 0 [c0, c1, c2, c3, c4, c5] = V % 1000000 := by
  have o : V / 1 = V := Int.ediv_one V
  have s0 : V / 100000 = 10 * (V / 1000000) + V / 100000 % 10 := digit_step V 100000 (by decide)
  have s1 : V / 10000 = 10 * (V / 100000) + V / 10000 % 10 := digit_step V 10000 (by decide)
  have s2 : V / 1000 = 10 * (V / 10000) + V / 1000 % 10 := digit_step V 1000 (by decide)
  have s3 : V / 100 = 10 * (V / 1000) + V / 100 % 10 := digit_step V 100 (by decide)
  have s4 : V / 10 = 10 * (V / 100) + V / 10 % 10 := digit_step V 10 (by decide)
  have s5 : V / 1 = 10 * (V / 10) + V / 1 % 10 := digit_step V 1 (by decide)
  rw [o] at s5 e5
  have f0 : c0.toInt - 48 = V / 100000 - 10 * (V / 1000000) := by omega
  have f1 : c1.toInt - 48 = V / 10000 - 10 * (V / 100000) := by omega
  have f2 : c2.toInt - 48 = V / 1000 - 10 * (V / 10000) := by omega
  have f3 : c3.toInt - 48 = V / 100 - 10 * (V / 1000) := by omega
  have f4 : c4.toInt - 48 = V / 10 - 10 * (V / 100) := by omega
  have f5 : c5.toInt - 48 = V - 10 * (V / 10) := by omega
  clear e0 e1 e2 e3 e4 e5 s0 s1 s2 s3 s4 s5
  show (10 * (10 * (10 * (10 * (10 * (10 * 0 + (c0.toInt - 48)) + (c1.toInt - 48)) + (c2.toInt - 48)) + (c3.toInt - 48)) + (c4.toInt - 48)) + (c5.toInt - 48)) = V % 1000000
  rw [f0]
  rw [f1]
  rw [f2]
  rw [f3]
  rw [f4]
  rw [f5]
  generalize V / 100000 = d100000
  generalize V / 10000 = d10000
  generalize V / 1000 = d1000
  generalize V / 100 = d100
  generalize V / 10 = d10
  omega
theorem dig7 {V : Int} {c0 c1 c2 c3 c4 c5 c6 : Int32} (e0 : c0.toInt = 48 + V / 1000000 % 10) (e1 : c1.toInt = 48 + V / 100000 % 10) (e2 : c2.toInt = 48 + V / 10000 % 10) (e3 : c3.toInt = 48 + V / 1000 % 10) (e4 : c4.toInt = 48 + V / 100 % 10) (e5 : c5.toInt = 48 + V / 10 % 10) (e6 : c6.toInt = 48 + V / 1 % 10) : dv 0 [c0, c1, c2, c3, c4, c5, c6] = V % 10000000 := by
  have o : V / 1 = V := Int.ediv_one V
  have s0 : V / 1000000 = 10 * (V / 10000000) + V / 1000000 % 10 := digit_step V 1000000 (by decide)
  have s1 : V / 100000 = 10 * (V / 1000000) + V / 100000 % 10 := digit_step V 100000 (by decide)
  have s2 : V / 10000 = 10 * (V / 100000) + V / 10000 % 10 := digit_step V 10000 (by decide)
  have s3 : V / 1000 = 10 * (V / 10000) + V / 1000 % 10 := digit_step V 1000 (by decide)
  have s4 : V / 100 = 10 * (V / 1000) + V / 100 % 10 := digit_step V 100 (by decide)
  have s5 : V / 10 = 10 * (V / 100) + V / 10 % 10 := digit_step V 10 (by decide)
  have s6 : V / 1 = 10 * (V / 10) + V / 1 % 10 := digit_step V 1 (by decide)
  rw [o] at s6 e6
  have f0 : c0.toInt - 48 = V / 1000000 - 10 * (V / 10000000) := by omega
  have f1 : c1.toInt - 48 = V / 100000 - 10 * (V / 1000000) := by omega
  have f2 : c2.toInt - 48 = V / 10000 - 10 * (V / 100000) := by omega
  have f3 : c3.toInt - 48 = V / 1000 - 10 * (V / 10000) := by omega
  have f4 : c4.toInt - 48 = V / 100 - 10 * (V / 1000) := by omega
  have f5 : c5.toInt - 48 = V / 10 - 10 * (V / 100) := by omega
  have f6 : c6.toInt - 48 = V - 10 * (V / 10) := by omega
  clear e0 e1 e2 e3 e4 e5 e6 s0 s1 s2 s3 s4 s5 s6
  show (10 * (10 * (10 * (10 * (10 * (10 * (10 * 0 + (c0.toInt - 48)) + (c1.toInt - 48)) + (c2.toInt - 48)) + (c3.toInt - 48)) + (c4.toInt - 48)) + (c5.toInt - 48)) + (c6.toInt - 48)) = V % 10000000
  rw [f0]
  rw [f1]
  rw [f2]
  rw [f3]
  rw [f4]
  rw [f5]
  rw [f6]
  generalize V / 1000000 = d1000000
  generalize V / 100000 = d100000
  generalize V / 10000 = d10000
  generalize V / 1000 = d1000
  generalize V / 100 = d100
  generalize V / 10 = d10
  omega
theorem dig8 {V : Int} {c0 c1 c2 c3 c4 c5 c6 c7 : Int32} (e0 : c0.toInt = 48 + V / 10000000 % 10) (e1 : c1.toInt = 48 + V / 1000000 % 10) (e2 : c2.toInt = 48 + V / 100000 % 10) (e3 : c3.toInt = 48 + V / 10000 % 10) (e4 : c4.toInt = 48 + V / 1000 % 10) (e5 : c5.toInt = 48 + V / 100 % 10) (e6 : c6.toInt = 48 + V / 10 % 10) (e7 : c7.toInt = 48 + V / 1 % 10) : dv 0 [c0, c1, c2, c3, c4, c5, c6, c7] = V % 100000000 := by
  have o : V / 1 = V := Int.ediv_one V
  have s0 : V / 10000000 = 10 * (V / 100000000) + V / 10000000 % 10 := digit_step V 10000000 (by decide)
  have s1 : V / 1000000 = 10 * (V / 10000000) + V / 1000000 % 10 := digit_step V 1000000 (by decide)
  have s2 : V / 100000 = 10 * (V / 1000000) + V / 100000 % 10 := digit_step V 100000 (by decide)
  have s3 : V / 10000 = 10 * (V / 100000) + V / 10000 % 10 := digit_step V 10000 (by decide)
  have s4 : V / 1000 = 10 * (V / 10000) + V / 1000 % 10 := digit_step V 1000 (by decide)
  have s5 : V / 100 = 10 * (V / 1000) + V / 100 % 10 := digit_step V 100 (by decide)
  have s6 : V / 10 = 10 * (V / 100) + V / 10 % 10 := digit_step V 10 (by decide)
  have s7 : V / 1 = 10 * (V / 10) + V / 1 % 10 := digit_step V 1 (by decide)
  rw [o] at s7 e7
  have f0 : c0.toInt - 48 = V / 10000000 - 10 * (V / 100000000) := by omega
  have f1 : c1.toInt - 48 = V / 1000000 - 10 * (V / 10000000) := by omega
  have f2 : c2.toInt - 48 = V / 100000 - 10 * (V / 1000000) := by omega
  have f3 : c3.toInt - 48 = V / 10000 - 10 * (V / 100000) := by omega
  have f4 : c4.toInt - 48 = V / 1000 - 10 * (V / 10000) := by omega
  have f5 : c5.toInt - 48 = V / 100 - 10 * (V / 1000) := by omega
  have f6 : c6.toInt - 48 = V / 10 - 10 * (V / 100) := by omega
  have f7 : c7.toInt - 48 = V - 10 * (V / 10) := by omega
  clear e0 e1 e2 e3 e4 e5 e6 e7 s0 s1 s2 s3 s4 s5 s6 s7
  show (10 * (10 * (10 * (10 * (10 * (10 * (10 * (10 * 0 + (c0.toInt - 48)) + (c1.toInt - 48)) + (c2.toInt - 48)) + (c3.toInt - 48)) + (c4.toInt - 48)) + (c5.toInt - 48)) + (c6.toInt - 48)) + (c7.toInt - 48)) = V % 100000000
  rw [f0]
  rw [f1]
  rw [f2]
  rw [f3]
  rw [f4]
  rw [f5]
  rw [f6]
  rw [f7]
  generalize V / 10000000 = d10000000
  generalize V / 1000000 = d1000000
  generalize V / 100000 = d100000
  generalize V / 10000 = d10000
  generalize V / 1000 = d1000
  generalize V / 100 = d100
  generalize V / 10 = d10
  omega
theorem dig9 {V : Int} {c0 c1 c2 c3 c4 c5 c6 c7 c8 : Int32} (e0 : c0.toInt = 48 + V / 100000000 % 10) (e1 : c1.toInt = 48 + V / 10000000 % 10) (e2 : c2.toInt = 48 + V / 1000000 % 10) (e3 : c3.toInt = 48 + V / 100000 % 10) (e4 : c4.toInt = 48 + V / 10000 % 10) (e5 : c5.toInt = 48 + V / 1000 % 10) (e6 : c6.toInt = 48 + V / 100 % 10) (e7 : c7.toInt = 48 + V / 10 % 10) (e8 : c8.toInt = 48 + V / 1 % 10) : dv 0 [c0, c1, c2, c3, c4, c5, c6, c7, c8] = V % 1000000000 := by
  have o : V / 1 = V := Int.ediv_one V
  have s0 : V / 100000000 = 10 * (V / 1000000000) + V / 100000000 % 10 := digit_step V 100000000 (by decide)
  have s1 : V / 10000000 = 10 * (V / 100000000) + V / 10000000 % 10 := digit_step V 10000000 (by decide)
  have s2 : V / 1000000 = 10 * (V / 10000000) + V / 1000000 % 10 := digit_step V 1000000 (by decide)
  have s3 : V / 100000 = 10 * (V / 1000000) + V / 100000 % 10 := digit_step V 100000 (by decide)
  have s4 : V / 10000 = 10 * (V / 100000) + V / 10000 % 10 := digit_step V 10000 (by decide)
  have s5 : V / 1000 = 10 * (V / 10000) + V / 1000 % 10 := digit_step V 1000 (by decide)
  have s6 : V / 100 = 10 * (V / 1000) + V / 100 % 10 := digit_step V 100 (by decide)
  have s7 : V / 10 = 10 * (V / 100) + V / 10 % 10 := digit_step V 10 (by decide)
  have s8 : V / 1 = 10 * (V / 10) + V / 1 % 10 := digit_step V 1 (by decide)
  rw [o] at s8 e8
  have f0 : c0.toInt - 48 = V / 100000000 - 10 * (V / 1000000000) := by omega
  have f1 : c1.toInt - 48 = V / 10000000 - 10 * (V / 100000000) := by omega
  have f2 : c2.toInt - 48 = V / 1000000 - 10 * (V / 10000000) := by omega
  have f3 : c3.toInt - 48 = V / 100000 - 10 * (V / 1000000) := by omega
  have f4 : c4.toInt - 48 = V / 10000 - 10 * (V / 100000) := by omega
  have f5 : c5.toInt - 48 = V / 1000 - 10 * (V / 10000) := by omega
  have f6 : c6.toInt - 48 = V / 100 - 10 * (V / 1000) := by omega
  have f7 : c7.toInt - 48 = V / 10 - 10 * (V / 100) := by omega
  have f8 : c8.toInt - 48 = V - 10 * (V / 10) := by omega
  clear e0 e1 e2 e3 e4 e5 e6 e7 e8 s0 s1 s2 s3 s4 s5 s6 s7 s8
  show (10 * (10 * (10 * (10 * (10 * (10 * (10 * (10 * (10 * 0 + (c0.toInt - 48)) + (c1.toInt - 48)) + (c2.toInt - 48)) + (c3.toInt - 48)) + (c4.toInt - 48)) + (c5.toInt - 48)) + (c6.toInt - 48)) + (c7.toInt - 48)) + (c8.toInt - 48)) = V % 1000000000
  rw [f0]
  rw [f1]
  rw [f2]
  rw [f3]
  rw [f4]
  rw [f5]
  rw [f6]
  rw [f7]
  rw [f8]
  generalize V / 100000000 = d100000000
  generalize V / 10000000 = d10000000
  generalize V / 1000000 = d1000000
  generalize V / 100000 = d100000
  generalize V / 10000 = d10000
  generalize V / 1000 = d1000
  generalize V / 100 = d100
  generalize V / 10 = d10
  omega
theorem dig10 {V : Int} {c0 c1 c2 c3 c4 c5 c6 c7 c8 c9 : Int32} (e0 : c0.toInt = 48 + V / 1000000000 % 10) (e1 : c1.toInt = 48 + V / 100000000 % 10) (e2 : c2.toInt = 48 + V / 10000000 % 10) (e3 : c3.toInt = 48 + V / 1000000 % 10) (e4 : c4.toInt = 48 + V / 100000 % 10) (e5 : c5.toInt = 48 + V / 10000 % 10) (e6 : c6.toInt = 48 + V / 1000 % 10) (e7 : c7.toInt = 48 + V / 100 % 10) (e8 : c8.toInt = 48 + V / 10 % 10) (e9 : c9.toInt = 48 + V / 1 % 10) : dv 0 [c0, c1, c2, c3, c4, c5, c6, c7, c8, c9] = V % 10000000000 := by
  have o : V / 1 = V := Int.ediv_one V
  have s0 : V / 1000000000 = 10 * (V / 10000000000) + V / 1000000000 % 10 := digit_step V 1000000000 (by decide)
  have s1 : V / 100000000 = 10 * (V / 1000000000) + V / 100000000 % 10 := digit_step V 100000000 (by decide)
  have s2 : V / 10000000 = 10 * (V / 100000000) + V / 10000000 % 10 := digit_step V 10000000 (by decide)
  have s3 : V / 1000000 = 10 * (V / 10000000) + V / 1000000 % 10 := digit_step V 1000000 (by decide)
  have s4 : V / 100000 = 10 * (V / 1000000) + V / 100000 % 10 := digit_step V 100000 (by decide)
  have s5 : V / 10000 = 10 * (V / 100000) + V / 10000 % 10 := digit_step V 10000 (by decide)
  have s6 : V / 1000 = 10 * (V / 10000) + V / 1000 % 10 := digit_step V 1000 (by decide)
  have s7 : V / 100 = 10 * (V / 1000) + V / 100 % 10 := digit_step V 100 (by decide)
  have s8 : V / 10 = 10 * (V / 100) + V / 10 % 10 := digit_step V 10 (by decide)
  have s9 : V / 1 = 10 * (V / 10) + V / 1 % 10 := digit_step V 1 (by decide)
  rw [o] at s9 e9
  have f0 : c0.toInt - 48 = V / 1000000000 - 10 * (V / 10000000000) := by omega
  have f1 : c1.toInt - 48 = V / 100000000 - 10 * (V / 1000000000) := by omega
  have f2 : c2.toInt - 48 = V / 10000000 - 10 * (V / 100000000) := by omega
  have f3 : c3.toInt - 48 = V / 1000000 - 10 * (V / 10000000) := by omega
  have f4 : c4.toInt - 48 = V / 100000 - 10 * (V / 1000000) := by omega
  have f5 : c5.toInt - 48 = V / 10000 - 10 * (V / 100000) := by omega
  have f6 : c6.toInt - 48 = V / 1000 - 10 * (V / 10000) := by omega
  have f7 : c7.toInt - 48 = V / 100 - 10 * (V / 1000) := by omega
  have f8 : c8.toInt - 48 = V / 10 - 10 * (V / 100) := by omega
  have f9 : c9.toInt - 48 = V - 10 * (V / 10) := by omega
  clear e0 e1 e2 e3 e4 e5 e6 e7 e8 e9 s0 s1 s2 s3 s4 s5 s6 s7 s8 s9
  show (10 * (10 * (10 * (10 * (10 * (10 * (10 * (10 * (10 * (10 * 0 + (c0.toInt - 48)) + (c1.toInt - 48)) + (c2.toInt - 48)) + (c3.toInt - 48)) + (c4.toInt - 48)) + (c5.toInt - 48)) + (c6.toInt - 48)) + (c7.toInt - 48)) + (c8.toInt - 48)) + (c9.toInt - 48)) = V % 10000000000
  rw [f0]
  rw [f1]
  rw [f2]
  rw [f3]
  rw [f4]
  rw [f5]
  rw [f6]
  rw [f7]
  rw [f8]
  rw [f9]
  generalize V / 1000000000 = d1000000000
  generalize V / 100000000 = d100000000
  generalize V / 10000000 = d10000000
  generalize V / 1000000 = d1000000
  generalize V / 100000 = d100000
  generalize V / 10000 = d10000
  generalize V / 1000 = d1000
  generalize V / 100 = d100
  generalize V / 10 = d10
  omega
theorem dig11 {V : Int} {c0 c1 c2 c3 c4 c5 c6 c7 c8 c9 c10 : Int32} (e0 : c0.toInt = 48 + V / 10000000000 % 10) (e1 : c1.toInt = 48 + V / 1000000000 % 10) (e2 : c2.toInt = 48 + V / 100000000 % 10) (e3 : c3.toInt = 48 + V / 10000000 % 10) (e4 : c4.toInt = 48 + V / 1000000 % 10) (e5 : c5.toInt = 48 + V / 100000 % 10) (e6 : c6.toInt = 48 + V / 10000 % 10) (e7 : c7.toInt = 48 + V / 1000 % 10) (e8 : c8.toInt = 48 + V / 100 % 10) (e9 : c9.toInt = 48 + V / 10 % 10) (e10 : c10.toInt = 48 + V / 1 % 10) : dv 0 [c0, c1, c2, c3, c4, c5, c6, c7, c8, c9, c10] = V % 100000000000 := by
  have o : V / 1 = V := Int.ediv_one V
  have s0 : V / 10000000000 = 10 * (V / 100000000000) + V / 10000000000 % 10 := digit_step V 10000000000 (by decide)
  have s1 : V / 1000000000 = 10 * (V / 10000000000) + V / 1000000000 % 10 := digit_step V 1000000000 (by decide)
  have s2 : V / 100000000 = 10 * (V / 1000000000) + V / 100000000 % 10 := digit_step V 100000000 (by decide)
  have s3 : V / 10000000 = 10 * (V / 100000000) + V / 10000000 % 10 := digit_step V 10000000 (by decide)
  have s4 : V / 1000000 = 10 * (V / 10000000) + V / 1000000 % 10 := digit_step V 1000000 (by decide)
  have s5 : V / 100000 = 10 * (V / 1000000) + V / 100000 % 10 := digit_step V 100000 (by decide)
  have s6 : V / 10000 = 10 * (V / 100000) + V / 10000 % 10 := digit_step V 10000 (by decide)
  have s7 : V / 1000 = 10 * (V / 10000) + V / 1000 % 10 := digit_step V 1000 (by decide)
  have s8 : V / 100 = 10 * (V / 1000) + V / 100 % 10 := digit_step V 100 (by decide)
  have s9 : V / 10 = 10 * (V / 100) + V / 10 % 10 := digit_step V 10 (by decide)
  have s10 : V / 1 = 10 * (V / 10) + V / 1 % 10 := digit_step V 1 (by decide)
  rw [o] at s10 e10
  have f0 : c0.toInt - 48 = V / 10000000000 - 10 * (V / 100000000000) := by omega
  have f1 : c1.toInt - 48 = V / 1000000000 - 10 * (V / 10000000000) := by omega
  have f2 : c2.toInt - 48 = V / 100000000 - 10 * (V / 1000000000) := by omega
  have f3 : c3.toInt - 48 = V / 10000000 - 10 * (V / 100000000) := by omega
  have f4 : c4.toInt - 48 = V / 1000000 - 10 * (V / 10000000) := by omega
  have f5 : c5.toInt - 48 = V / 100000 - 10 * (V / 1000000) := by omega
  have f6 : c6.toInt - 48 = V / 10000 - 10 * (V / 100000) := by omega
  have f7 : c7.toInt - 48 = V / 1000 - 10 * (V / 10000) := by omega
  have f8 : c8.toInt - 48 = V / 100 - 10 * (V / 1000) := by omega
  have f9 : c9.toInt - 48 = V / 10 - 10 * (V / 100) := by omega
  have f10 : c10.toInt - 48 = V - 10 * (V / 10) := by omega
  clear e0 e1 e2 e3 e4 e5 e6 e7 e8 e9 e10 s0 s1 s2 s3 s4 s5 s6 s7 s8 s9 s10
  show (10 * (10 * (10 * (10 * (10 * (10 * (10 * (10 * (10 * (10 * (10 * 0 + (c0.toInt - 48)) + (c1.toInt - 48)) + (c2.toInt - 48)) + (c3.toInt - 48)) + (c4.toInt - 48)) + (c5.toInt - 48)) + (c6.toInt - 48)) + (c7.toInt - 48)) + (c8.toInt - 48)) + (c9.toInt - 48)) + (c10.toInt - 48)) = V % 100000000000
  rw [f0]
  rw [f1]
  rw [f2]
  rw [f3]
  rw [f4]
  rw [f5]
  rw [f6]
  rw [f7]
  rw [f8]
  rw [f9]
  rw [f10]
  generalize V / 10000000000 = d10000000000
  generalize V / 1000000000 = d1000000000
  generalize V / 100000000 = d100000000
  generalize V / 10000000 = d10000000
  generalize V / 1000000 = d1000000
  generalize V / 100000 = d100000
  generalize V / 10000 = d10000
  generalize V / 1000 = d1000
  generalize V / 100 = d100
  generalize V / 10 = d10
  omega
set_option maxRecDepth 65536 in
set_option maxHeartbeats 40000000 in
theorem c_ch  (B : Base Z a0) {h : Heap} {u p : Int64} (h0 : 0 ≤ u.toInt) (hp : 0 < p.toInt) : Con l Z a0 EL it n0 (⟨"com/example/quire/quire/catalogue/WholeNumberParsePinLaw", "ch", "(JJ)C"⟩ : MethodName) 1 15 0 0 #[.long u, .long p] h [] (fun v h' => ∃ r : Int32, v = some (.int r) ∧ (48 ≤ r.toInt ∧ r.toInt ≤ 57) ∧ Dg u.toInt p.toInt r ∧ h = h') := by
  refine Met.con (bytes := method_2_code) (maxL := 4) (ret := (some .char)) (rm := ({ frames := 0, cells := 0, slots := 0, locals := 0 } : Room)) (Met.of (own := "com/example/quire/quire/catalogue/WholeNumberParsePinLaw") (nm := "ch") #[.val (.long u), .second, .val (.long p), .second] (ew B) rfl rfl (plainFor_of_name pn_com_example_quire_quire_catalogue_WholeNumberParsePinLaw) (fun m => by first | (simp [entryFrame, mkF, argsToLocals, Value.category]; done) | rfl) fun K C => ?_) (B.1 _ (List.mem_of_getElem? (i := 25) rfl)) (B.1 _ (List.mem_of_getElem? (i := 17) rfl)) rfl rfl rfl rfl
  have hp0 : p ≠ 0 := nz64 hp
  have q := dg_chr (dg_l h0 hp)
  refine C.bipush (v := (48 : Int32)) d14_0 (by first | rfl | decide) ?_
  refine C.lloadN d14_2 rfl ?_
  refine C.lloadN d14_3 rfl ?_
  refine C.ldiv (by assumption) d14_4 ?_
  refine C.ldc2Long (v := (10 : Int64)) (B.1 _ (List.mem_of_getElem? (i := 3) rfl)) d14_5 ?_
  refine C.lrem (by decide) d14_8 ?_
  refine C.l2i d14_9 ?_
  refine C.iadd d14_10 ?_
  refine C.i2c d14_11 ?_
  exact C.ireturn (t := .char) rfl (by simp) (nchar (by omega) (by omega)) d14_12 (by decide) (by decide) ⟨_, rfl, q.1, q.2, rfl⟩
set_option maxRecDepth 65536 in
set_option maxHeartbeats 40000000 in
theorem c_text  (B : Base Z a0) {h : Heap} {u : Int64} {n : Int32} (h0 : 0 ≤ u.toInt) (hn : 1 ≤ n.toInt ∧ n.toInt ≤ 11) : Con l Z a0 EL it n0 (⟨"com/example/quire/quire/catalogue/WholeNumberParsePinLaw", "text", "(JI)Ljava/lang/String;"⟩ : MethodName) 5 80 3 26 #[.long u, .int n] h [] (fun v h' => ∃ (x : Nat) (cs : List Int32), v = some (.ref x) ∧ Str Z h' h'.size x cs ∧ (cs.length : Int) = n.toInt ∧ (∀ c ∈ cs, 48 ≤ c.toInt ∧ c.toInt ≤ 57) ∧ dv 0 cs = u.toInt % 10 ^ n.toInt.toNat) := by
  refine Met.con (bytes := method_3_code) (maxL := 3) (ret := (some (.object "java/lang/String"))) (rm := ({ frames := 4, cells := 3, slots := 26, locals := 66 } : Room)) (Met.of (own := "com/example/quire/quire/catalogue/WholeNumberParsePinLaw") (nm := "text") #[.val (.long u), .second, .val (.int n)] (ew B) rfl rfl (plainFor_of_name pn_com_example_quire_quire_catalogue_WholeNumberParsePinLaw) (fun m => by first | (simp [entryFrame, mkF, argsToLocals, Value.category]; done) | rfl) fun K C => ?_) (B.1 _ (List.mem_of_getElem? (i := 18) rfl)) (B.1 _ (List.mem_of_getElem? (i := 17) rfl)) rfl rfl rfl rfl
  refine C.iloadN d15_0 rfl ?_
  have cn : n.toInt = 1 ∨ n.toInt = 2 ∨ n.toInt = 3 ∨ n.toInt = 4 ∨ n.toInt = 5 ∨ n.toInt = 6 ∨ n.toInt = 7 ∨ n.toInt = 8 ∨ n.toInt = 9 ∨ n.toInt = 10 ∨ n.toInt = 11 := by omega
  rcases cn with cn | cn | cn | cn | cn | cn | cn | cn | cn | cn | cn
  · skip
    refine C.tswIn 56 d15_1 (by omega) (by rw [cn]; rfl) (by decide) (by decide) ?_
    show C.W h [] 0 0 (mkF K.m 56 #[.val (.long u), .second, .val (.int n)] [])
    refine C.new (B.1 _ (List.mem_of_getElem? (i := 19) rfl)) (B.1 _ (List.mem_of_getElem? (i := 20) rfl)) (B.1 _ (List.mem_of_getElem? (i := 21) rfl)) d15_56 (by decide) (by decide) fun h1 a2 g1 z1 o1 K1 En1 Dn1 => ?_
    show C.W h1 [a2] 1 4 (mkF K.m 59 #[.val (.long u), .second, .val (.int n)] [.ref a2])
    have Fv : Fld Z h1 a2 "java/lang/String" "value" "[B" (.null) := Dn1 (Or.inr (B.1 _ (List.mem_of_getElem? (i := 51) rfl))) (ty := (.array .byte)) (by decide)
    have Fc : Fld Z h1 a2 "java/lang/String" "coder" "B" (.int 0) := Dn1 (Or.inr (B.1 _ (List.mem_of_getElem? (i := 49) rfl))) (ty := .byte) (by decide)
    refine C.dup rfl d15_59 ?_
    refine C.iconst (v := (1 : Int32)) d15_60 (by first | rfl | decide) ?_
    refine C.newarr 1 1 (B.1 _ (List.mem_of_getElem? (i := 22) rfl)) d15_61 (by first | rfl | decide) (by decide) (by decide) (by decide) (by decide) fun h3 a4 g3 z3 o3 K3 An3 => ?_
    have An3 : Ary Z h3 a4 .char [.int 0] := An3
    show C.W h3 [a4, a2] 2 5 (mkF K.m 63 #[.val (.long u), .second, .val (.int n)] [.ref a4, .ref a2, .ref a2])
    refine C.dup rfl d15_63 ?_
    refine C.iconst (v := (0 : Int32)) d15_64 (by first | rfl | decide) ?_
    refine C.lloadN d15_65 rfl ?_
    refine C.lconst (v := (1 : Int64)) d15_66 (by first | rfl | decide) ?_
    refine C.callS [.long u, .long (1 : Int64)] [.int (0 : Int32), .ref a4, .ref a4, .ref a2, .ref a2] 5 (B.1 _ (List.mem_of_getElem? (i := 23) rfl)) (B.1 _ (List.mem_of_getElem? (i := 24) rfl)) (B.1 _ (List.mem_of_getElem? (i := 17) rfl)) (B.1 _ (List.mem_of_getElem? (i := 25) rfl)) (by decide) pd__28_JJ_29_C rfl id (c_ch B (u := u) (p := (1 : Int64)) h0 (by decide)) d15_67 rfl rfl rfl (by decide) (by decide) (by decide) (by decide) all0 fun v5 h5 z5 K5 q5 => ?_
    obtain ⟨c0, rfl, g0, D0, rfl⟩ := q5
    show C.W h3 [a4, a2] 2 5 (mkF K.m 70 #[.val (.long u), .second, .val (.int n)] [.int c0, .int (0 : Int32), .ref a4, .ref a4, .ref a2, .ref a2])
    refine C.castore 0 An3 (by first | rfl | decide) (Nat.le_of_ble_eq_true rfl) (by omega) (by omega) d15_70 (List.mem_of_getElem? (i := 0) rfl) fun h6 z6 K6 Aw6 => ?_
    have Aw6 : Ary Z h6 a4 .char [.int c0] := Aw6
    show C.W h6 [a4, a2] 2 5 (mkF K.m 71 #[.val (.long u), .second, .val (.int n)] [.ref a4, .ref a2, .ref a2])
    have hdg : ∀ c ∈ ([c0] : List Int32), 48 ≤ c.toInt ∧ c.toInt ≤ 57 := by
      intro c hc
      simp only [List.mem_cons, List.not_mem_nil, or_false] at hc
      rcases hc with rfl <;> omega
    have En1_7 := ((En1.keep K3).keep K6)
    have Fv_8 := ((Fv.keep K3 nin0).keep K6 (ninS (neA (by omega)) nin0))
    have Fc_9 := ((Fc.keep K3 nin0).keep K6 (ninS (neA (by omega)) nin0))
    refine C.callN a2 [.ref a4] [.ref a2] 1 (B.1 _ (List.mem_of_getElem? (i := 26) rfl)) (B.1 _ (List.mem_of_getElem? (i := 27) rfl)) (B.1 _ (List.mem_of_getElem? (i := 28) rfl)) rfl (by decide) pd__28__5b_C_29_V rfl id (c_init1 B (cs := [c0]) En1_7 Fv_8 Fc_9 Aw6 (Nat.le_of_ble_eq_true rfl) (fun c hc => by have := hdg c hc; omega) (Nat.le_of_ble_eq_true rfl)) d15_71 rfl rfl rfl (by decide) (by decide) (by decide) (by decide) (allS (List.mem_of_getElem? (i := 1) rfl) all0) fun v10 h10 z10 K10 q10 => ?_
    obtain ⟨rfl, S10⟩ := q10
    show C.W h10 [a4, a2] 3 16 (mkF K.m 74 #[.val (.long u), .second, .val (.int n)] [.ref a2])
    exact C.areturn rfl rfl rfl d15_74 (by decide) (by decide) ⟨a2, [c0], rfl, S10, by rw [cn]; rfl, hdg, by rw [cn, show ((10 : Int) ^ (1 : Int).toNat) = 10 by decide]; exact dig1 (D0.lit (by decide))⟩
  · skip
    refine C.tswIn 75 d15_1 (by omega) (by rw [cn]; rfl) (by decide) (by decide) ?_
    show C.W h [] 0 0 (mkF K.m 75 #[.val (.long u), .second, .val (.int n)] [])
    refine C.new (B.1 _ (List.mem_of_getElem? (i := 19) rfl)) (B.1 _ (List.mem_of_getElem? (i := 20) rfl)) (B.1 _ (List.mem_of_getElem? (i := 21) rfl)) d15_75 (by decide) (by decide) fun h11 a12 g11 z11 o11 K11 En11 Dn11 => ?_
    show C.W h11 [a12] 1 4 (mkF K.m 78 #[.val (.long u), .second, .val (.int n)] [.ref a12])
    have Fv : Fld Z h11 a12 "java/lang/String" "value" "[B" (.null) := Dn11 (Or.inr (B.1 _ (List.mem_of_getElem? (i := 51) rfl))) (ty := (.array .byte)) (by decide)
    have Fc : Fld Z h11 a12 "java/lang/String" "coder" "B" (.int 0) := Dn11 (Or.inr (B.1 _ (List.mem_of_getElem? (i := 49) rfl))) (ty := .byte) (by decide)
    refine C.dup rfl d15_78 ?_
    refine C.iconst (v := (2 : Int32)) d15_79 (by first | rfl | decide) ?_
    refine C.newarr 2 2 (B.1 _ (List.mem_of_getElem? (i := 22) rfl)) d15_80 (by first | rfl | decide) (by decide) (by decide) (by decide) (by decide) fun h13 a14 g13 z13 o13 K13 An13 => ?_
    have An13 : Ary Z h13 a14 .char [.int 0, .int 0] := An13
    show C.W h13 [a14, a12] 2 6 (mkF K.m 82 #[.val (.long u), .second, .val (.int n)] [.ref a14, .ref a12, .ref a12])
    refine C.dup rfl d15_82 ?_
    refine C.iconst (v := (0 : Int32)) d15_83 (by first | rfl | decide) ?_
    refine C.lloadN d15_84 rfl ?_
    refine C.ldc2Long (v := (10 : Int64)) (B.1 _ (List.mem_of_getElem? (i := 3) rfl)) d15_85 ?_
    refine C.callS [.long u, .long (10 : Int64)] [.int (0 : Int32), .ref a14, .ref a14, .ref a12, .ref a12] 5 (B.1 _ (List.mem_of_getElem? (i := 23) rfl)) (B.1 _ (List.mem_of_getElem? (i := 24) rfl)) (B.1 _ (List.mem_of_getElem? (i := 17) rfl)) (B.1 _ (List.mem_of_getElem? (i := 25) rfl)) (by decide) pd__28_JJ_29_C rfl id (c_ch B (u := u) (p := (10 : Int64)) h0 (by decide)) d15_88 rfl rfl rfl (by decide) (by decide) (by decide) (by decide) all0 fun v15 h15 z15 K15 q15 => ?_
    obtain ⟨c0, rfl, g0, D0, rfl⟩ := q15
    show C.W h13 [a14, a12] 2 6 (mkF K.m 91 #[.val (.long u), .second, .val (.int n)] [.int c0, .int (0 : Int32), .ref a14, .ref a14, .ref a12, .ref a12])
    refine C.castore 0 An13 (by first | rfl | decide) (Nat.le_of_ble_eq_true rfl) (by omega) (by omega) d15_91 (List.mem_of_getElem? (i := 0) rfl) fun h16 z16 K16 Aw16 => ?_
    have Aw16 : Ary Z h16 a14 .char [.int c0, .int 0] := Aw16
    show C.W h16 [a14, a12] 2 6 (mkF K.m 92 #[.val (.long u), .second, .val (.int n)] [.ref a14, .ref a12, .ref a12])
    refine C.dup rfl d15_92 ?_
    refine C.iconst (v := (1 : Int32)) d15_93 (by first | rfl | decide) ?_
    refine C.lloadN d15_94 rfl ?_
    refine C.lconst (v := (1 : Int64)) d15_95 (by first | rfl | decide) ?_
    refine C.callS [.long u, .long (1 : Int64)] [.int (1 : Int32), .ref a14, .ref a14, .ref a12, .ref a12] 5 (B.1 _ (List.mem_of_getElem? (i := 23) rfl)) (B.1 _ (List.mem_of_getElem? (i := 24) rfl)) (B.1 _ (List.mem_of_getElem? (i := 17) rfl)) (B.1 _ (List.mem_of_getElem? (i := 25) rfl)) (by decide) pd__28_JJ_29_C rfl id (c_ch B (u := u) (p := (1 : Int64)) h0 (by decide)) d15_96 rfl rfl rfl (by decide) (by decide) (by decide) (by decide) all0 fun v17 h17 z17 K17 q17 => ?_
    obtain ⟨c1, rfl, g1, D1, rfl⟩ := q17
    show C.W h16 [a14, a12] 2 6 (mkF K.m 99 #[.val (.long u), .second, .val (.int n)] [.int c1, .int (1 : Int32), .ref a14, .ref a14, .ref a12, .ref a12])
    refine C.castore 1 Aw16 (by first | rfl | decide) (Nat.le_of_ble_eq_true rfl) (by omega) (by omega) d15_99 (List.mem_of_getElem? (i := 0) rfl) fun h18 z18 K18 Aw18 => ?_
    have Aw18 : Ary Z h18 a14 .char [.int c0, .int c1] := Aw18
    show C.W h18 [a14, a12] 2 6 (mkF K.m 100 #[.val (.long u), .second, .val (.int n)] [.ref a14, .ref a12, .ref a12])
    have hdg : ∀ c ∈ ([c0, c1] : List Int32), 48 ≤ c.toInt ∧ c.toInt ≤ 57 := by
      intro c hc
      simp only [List.mem_cons, List.not_mem_nil, or_false] at hc
      rcases hc with rfl | rfl <;> omega
    have En11_19 := (((En11.keep K13).keep K16).keep K18)
    have Fv_20 := (((Fv.keep K13 nin0).keep K16 (ninS (neA (by omega)) nin0)).keep K18 (ninS (neA (by omega)) nin0))
    have Fc_21 := (((Fc.keep K13 nin0).keep K16 (ninS (neA (by omega)) nin0)).keep K18 (ninS (neA (by omega)) nin0))
    refine C.callN a12 [.ref a14] [.ref a12] 1 (B.1 _ (List.mem_of_getElem? (i := 26) rfl)) (B.1 _ (List.mem_of_getElem? (i := 27) rfl)) (B.1 _ (List.mem_of_getElem? (i := 28) rfl)) rfl (by decide) pd__28__5b_C_29_V rfl id (c_init1 B (cs := [c0, c1]) En11_19 Fv_20 Fc_21 Aw18 (Nat.le_of_ble_eq_true rfl) (fun c hc => by have := hdg c hc; omega) (Nat.le_of_ble_eq_true rfl)) d15_100 rfl rfl rfl (by decide) (by decide) (by decide) (by decide) (allS (List.mem_of_getElem? (i := 1) rfl) all0) fun v22 h22 z22 K22 q22 => ?_
    obtain ⟨rfl, S22⟩ := q22
    show C.W h22 [a14, a12] 3 17 (mkF K.m 103 #[.val (.long u), .second, .val (.int n)] [.ref a12])
    exact C.areturn rfl rfl rfl d15_103 (by decide) (by decide) ⟨a12, [c0, c1], rfl, S22, by rw [cn]; rfl, hdg, by rw [cn, show ((10 : Int) ^ (2 : Int).toNat) = 100 by decide]; exact dig2 (D0.lit (by decide)) (D1.lit (by decide))⟩
  · skip
    refine C.tswIn 104 d15_1 (by omega) (by rw [cn]; rfl) (by decide) (by decide) ?_
    show C.W h [] 0 0 (mkF K.m 104 #[.val (.long u), .second, .val (.int n)] [])
    refine C.new (B.1 _ (List.mem_of_getElem? (i := 19) rfl)) (B.1 _ (List.mem_of_getElem? (i := 20) rfl)) (B.1 _ (List.mem_of_getElem? (i := 21) rfl)) d15_104 (by decide) (by decide) fun h23 a24 g23 z23 o23 K23 En23 Dn23 => ?_
    show C.W h23 [a24] 1 4 (mkF K.m 107 #[.val (.long u), .second, .val (.int n)] [.ref a24])
    have Fv : Fld Z h23 a24 "java/lang/String" "value" "[B" (.null) := Dn23 (Or.inr (B.1 _ (List.mem_of_getElem? (i := 51) rfl))) (ty := (.array .byte)) (by decide)
    have Fc : Fld Z h23 a24 "java/lang/String" "coder" "B" (.int 0) := Dn23 (Or.inr (B.1 _ (List.mem_of_getElem? (i := 49) rfl))) (ty := .byte) (by decide)
    refine C.dup rfl d15_107 ?_
    refine C.iconst (v := (3 : Int32)) d15_108 (by first | rfl | decide) ?_
    refine C.newarr 3 3 (B.1 _ (List.mem_of_getElem? (i := 22) rfl)) d15_109 (by first | rfl | decide) (by decide) (by decide) (by decide) (by decide) fun h25 a26 g25 z25 o25 K25 An25 => ?_
    have An25 : Ary Z h25 a26 .char [.int 0, .int 0, .int 0] := An25
    show C.W h25 [a26, a24] 2 7 (mkF K.m 111 #[.val (.long u), .second, .val (.int n)] [.ref a26, .ref a24, .ref a24])
    refine C.dup rfl d15_111 ?_
    refine C.iconst (v := (0 : Int32)) d15_112 (by first | rfl | decide) ?_
    refine C.lloadN d15_113 rfl ?_
    refine C.ldc2Long (v := (100 : Int64)) (B.1 _ (List.mem_of_getElem? (i := 4) rfl)) d15_114 ?_
    refine C.callS [.long u, .long (100 : Int64)] [.int (0 : Int32), .ref a26, .ref a26, .ref a24, .ref a24] 5 (B.1 _ (List.mem_of_getElem? (i := 23) rfl)) (B.1 _ (List.mem_of_getElem? (i := 24) rfl)) (B.1 _ (List.mem_of_getElem? (i := 17) rfl)) (B.1 _ (List.mem_of_getElem? (i := 25) rfl)) (by decide) pd__28_JJ_29_C rfl id (c_ch B (u := u) (p := (100 : Int64)) h0 (by decide)) d15_117 rfl rfl rfl (by decide) (by decide) (by decide) (by decide) all0 fun v27 h27 z27 K27 q27 => ?_
    obtain ⟨c0, rfl, g0, D0, rfl⟩ := q27
    show C.W h25 [a26, a24] 2 7 (mkF K.m 120 #[.val (.long u), .second, .val (.int n)] [.int c0, .int (0 : Int32), .ref a26, .ref a26, .ref a24, .ref a24])
    refine C.castore 0 An25 (by first | rfl | decide) (Nat.le_of_ble_eq_true rfl) (by omega) (by omega) d15_120 (List.mem_of_getElem? (i := 0) rfl) fun h28 z28 K28 Aw28 => ?_
    have Aw28 : Ary Z h28 a26 .char [.int c0, .int 0, .int 0] := Aw28
    show C.W h28 [a26, a24] 2 7 (mkF K.m 121 #[.val (.long u), .second, .val (.int n)] [.ref a26, .ref a24, .ref a24])
    refine C.dup rfl d15_121 ?_
    refine C.iconst (v := (1 : Int32)) d15_122 (by first | rfl | decide) ?_
    refine C.lloadN d15_123 rfl ?_
    refine C.ldc2Long (v := (10 : Int64)) (B.1 _ (List.mem_of_getElem? (i := 3) rfl)) d15_124 ?_
    refine C.callS [.long u, .long (10 : Int64)] [.int (1 : Int32), .ref a26, .ref a26, .ref a24, .ref a24] 5 (B.1 _ (List.mem_of_getElem? (i := 23) rfl)) (B.1 _ (List.mem_of_getElem? (i := 24) rfl)) (B.1 _ (List.mem_of_getElem? (i := 17) rfl)) (B.1 _ (List.mem_of_getElem? (i := 25) rfl)) (by decide) pd__28_JJ_29_C rfl id (c_ch B (u := u) (p := (10 : Int64)) h0 (by decide)) d15_127 rfl rfl rfl (by decide) (by decide) (by decide) (by decide) all0 fun v29 h29 z29 K29 q29 => ?_
    obtain ⟨c1, rfl, g1, D1, rfl⟩ := q29
    show C.W h28 [a26, a24] 2 7 (mkF K.m 130 #[.val (.long u), .second, .val (.int n)] [.int c1, .int (1 : Int32), .ref a26, .ref a26, .ref a24, .ref a24])
    refine C.castore 1 Aw28 (by first | rfl | decide) (Nat.le_of_ble_eq_true rfl) (by omega) (by omega) d15_130 (List.mem_of_getElem? (i := 0) rfl) fun h30 z30 K30 Aw30 => ?_
    have Aw30 : Ary Z h30 a26 .char [.int c0, .int c1, .int 0] := Aw30
    show C.W h30 [a26, a24] 2 7 (mkF K.m 131 #[.val (.long u), .second, .val (.int n)] [.ref a26, .ref a24, .ref a24])
    refine C.dup rfl d15_131 ?_
    refine C.iconst (v := (2 : Int32)) d15_132 (by first | rfl | decide) ?_
    refine C.lloadN d15_133 rfl ?_
    refine C.lconst (v := (1 : Int64)) d15_134 (by first | rfl | decide) ?_
    refine C.callS [.long u, .long (1 : Int64)] [.int (2 : Int32), .ref a26, .ref a26, .ref a24, .ref a24] 5 (B.1 _ (List.mem_of_getElem? (i := 23) rfl)) (B.1 _ (List.mem_of_getElem? (i := 24) rfl)) (B.1 _ (List.mem_of_getElem? (i := 17) rfl)) (B.1 _ (List.mem_of_getElem? (i := 25) rfl)) (by decide) pd__28_JJ_29_C rfl id (c_ch B (u := u) (p := (1 : Int64)) h0 (by decide)) d15_135 rfl rfl rfl (by decide) (by decide) (by decide) (by decide) all0 fun v31 h31 z31 K31 q31 => ?_
    obtain ⟨c2, rfl, g2, D2, rfl⟩ := q31
    show C.W h30 [a26, a24] 2 7 (mkF K.m 138 #[.val (.long u), .second, .val (.int n)] [.int c2, .int (2 : Int32), .ref a26, .ref a26, .ref a24, .ref a24])
    refine C.castore 2 Aw30 (by first | rfl | decide) (Nat.le_of_ble_eq_true rfl) (by omega) (by omega) d15_138 (List.mem_of_getElem? (i := 0) rfl) fun h32 z32 K32 Aw32 => ?_
    have Aw32 : Ary Z h32 a26 .char [.int c0, .int c1, .int c2] := Aw32
    show C.W h32 [a26, a24] 2 7 (mkF K.m 139 #[.val (.long u), .second, .val (.int n)] [.ref a26, .ref a24, .ref a24])
    have hdg : ∀ c ∈ ([c0, c1, c2] : List Int32), 48 ≤ c.toInt ∧ c.toInt ≤ 57 := by
      intro c hc
      simp only [List.mem_cons, List.not_mem_nil, or_false] at hc
      rcases hc with rfl | rfl | rfl <;> omega
    have En23_33 := ((((En23.keep K25).keep K28).keep K30).keep K32)
    have Fv_34 := ((((Fv.keep K25 nin0).keep K28 (ninS (neA (by omega)) nin0)).keep K30 (ninS (neA (by omega)) nin0)).keep K32 (ninS (neA (by omega)) nin0))
    have Fc_35 := ((((Fc.keep K25 nin0).keep K28 (ninS (neA (by omega)) nin0)).keep K30 (ninS (neA (by omega)) nin0)).keep K32 (ninS (neA (by omega)) nin0))
    refine C.callN a24 [.ref a26] [.ref a24] 1 (B.1 _ (List.mem_of_getElem? (i := 26) rfl)) (B.1 _ (List.mem_of_getElem? (i := 27) rfl)) (B.1 _ (List.mem_of_getElem? (i := 28) rfl)) rfl (by decide) pd__28__5b_C_29_V rfl id (c_init1 B (cs := [c0, c1, c2]) En23_33 Fv_34 Fc_35 Aw32 (Nat.le_of_ble_eq_true rfl) (fun c hc => by have := hdg c hc; omega) (Nat.le_of_ble_eq_true rfl)) d15_139 rfl rfl rfl (by decide) (by decide) (by decide) (by decide) (allS (List.mem_of_getElem? (i := 1) rfl) all0) fun v36 h36 z36 K36 q36 => ?_
    obtain ⟨rfl, S36⟩ := q36
    show C.W h36 [a26, a24] 3 18 (mkF K.m 142 #[.val (.long u), .second, .val (.int n)] [.ref a24])
    exact C.areturn rfl rfl rfl d15_142 (by decide) (by decide) ⟨a24, [c0, c1, c2], rfl, S36, by rw [cn]; rfl, hdg, by rw [cn, show ((10 : Int) ^ (3 : Int).toNat) = 1000 by decide]; exact dig3 (D0.lit (by decide)) (D1.lit (by decide)) (D2.lit (by decide))⟩
  · skip
    refine C.tswIn 143 d15_1 (by omega) (by rw [cn]; rfl) (by decide) (by decide) ?_
    show C.W h [] 0 0 (mkF K.m 143 #[.val (.long u), .second, .val (.int n)] [])
    refine C.new (B.1 _ (List.mem_of_getElem? (i := 19) rfl)) (B.1 _ (List.mem_of_getElem? (i := 20) rfl)) (B.1 _ (List.mem_of_getElem? (i := 21) rfl)) d15_143 (by decide) (by decide) fun h37 a38 g37 z37 o37 K37 En37 Dn37 => ?_
    show C.W h37 [a38] 1 4 (mkF K.m 146 #[.val (.long u), .second, .val (.int n)] [.ref a38])
    have Fv : Fld Z h37 a38 "java/lang/String" "value" "[B" (.null) := Dn37 (Or.inr (B.1 _ (List.mem_of_getElem? (i := 51) rfl))) (ty := (.array .byte)) (by decide)
    have Fc : Fld Z h37 a38 "java/lang/String" "coder" "B" (.int 0) := Dn37 (Or.inr (B.1 _ (List.mem_of_getElem? (i := 49) rfl))) (ty := .byte) (by decide)
    refine C.dup rfl d15_146 ?_
    refine C.iconst (v := (4 : Int32)) d15_147 (by first | rfl | decide) ?_
    refine C.newarr 4 4 (B.1 _ (List.mem_of_getElem? (i := 22) rfl)) d15_148 (by first | rfl | decide) (by decide) (by decide) (by decide) (by decide) fun h39 a40 g39 z39 o39 K39 An39 => ?_
    have An39 : Ary Z h39 a40 .char [.int 0, .int 0, .int 0, .int 0] := An39
    show C.W h39 [a40, a38] 2 8 (mkF K.m 150 #[.val (.long u), .second, .val (.int n)] [.ref a40, .ref a38, .ref a38])
    refine C.dup rfl d15_150 ?_
    refine C.iconst (v := (0 : Int32)) d15_151 (by first | rfl | decide) ?_
    refine C.lloadN d15_152 rfl ?_
    refine C.ldc2Long (v := (1000 : Int64)) (B.1 _ (List.mem_of_getElem? (i := 5) rfl)) d15_153 ?_
    refine C.callS [.long u, .long (1000 : Int64)] [.int (0 : Int32), .ref a40, .ref a40, .ref a38, .ref a38] 5 (B.1 _ (List.mem_of_getElem? (i := 23) rfl)) (B.1 _ (List.mem_of_getElem? (i := 24) rfl)) (B.1 _ (List.mem_of_getElem? (i := 17) rfl)) (B.1 _ (List.mem_of_getElem? (i := 25) rfl)) (by decide) pd__28_JJ_29_C rfl id (c_ch B (u := u) (p := (1000 : Int64)) h0 (by decide)) d15_156 rfl rfl rfl (by decide) (by decide) (by decide) (by decide) all0 fun v41 h41 z41 K41 q41 => ?_
    obtain ⟨c0, rfl, g0, D0, rfl⟩ := q41
    show C.W h39 [a40, a38] 2 8 (mkF K.m 159 #[.val (.long u), .second, .val (.int n)] [.int c0, .int (0 : Int32), .ref a40, .ref a40, .ref a38, .ref a38])
    refine C.castore 0 An39 (by first | rfl | decide) (Nat.le_of_ble_eq_true rfl) (by omega) (by omega) d15_159 (List.mem_of_getElem? (i := 0) rfl) fun h42 z42 K42 Aw42 => ?_
    have Aw42 : Ary Z h42 a40 .char [.int c0, .int 0, .int 0, .int 0] := Aw42
    show C.W h42 [a40, a38] 2 8 (mkF K.m 160 #[.val (.long u), .second, .val (.int n)] [.ref a40, .ref a38, .ref a38])
    refine C.dup rfl d15_160 ?_
    refine C.iconst (v := (1 : Int32)) d15_161 (by first | rfl | decide) ?_
    refine C.lloadN d15_162 rfl ?_
    refine C.ldc2Long (v := (100 : Int64)) (B.1 _ (List.mem_of_getElem? (i := 4) rfl)) d15_163 ?_
    refine C.callS [.long u, .long (100 : Int64)] [.int (1 : Int32), .ref a40, .ref a40, .ref a38, .ref a38] 5 (B.1 _ (List.mem_of_getElem? (i := 23) rfl)) (B.1 _ (List.mem_of_getElem? (i := 24) rfl)) (B.1 _ (List.mem_of_getElem? (i := 17) rfl)) (B.1 _ (List.mem_of_getElem? (i := 25) rfl)) (by decide) pd__28_JJ_29_C rfl id (c_ch B (u := u) (p := (100 : Int64)) h0 (by decide)) d15_166 rfl rfl rfl (by decide) (by decide) (by decide) (by decide) all0 fun v43 h43 z43 K43 q43 => ?_
    obtain ⟨c1, rfl, g1, D1, rfl⟩ := q43
    show C.W h42 [a40, a38] 2 8 (mkF K.m 169 #[.val (.long u), .second, .val (.int n)] [.int c1, .int (1 : Int32), .ref a40, .ref a40, .ref a38, .ref a38])
    refine C.castore 1 Aw42 (by first | rfl | decide) (Nat.le_of_ble_eq_true rfl) (by omega) (by omega) d15_169 (List.mem_of_getElem? (i := 0) rfl) fun h44 z44 K44 Aw44 => ?_
    have Aw44 : Ary Z h44 a40 .char [.int c0, .int c1, .int 0, .int 0] := Aw44
    show C.W h44 [a40, a38] 2 8 (mkF K.m 170 #[.val (.long u), .second, .val (.int n)] [.ref a40, .ref a38, .ref a38])
    refine C.dup rfl d15_170 ?_
    refine C.iconst (v := (2 : Int32)) d15_171 (by first | rfl | decide) ?_
    refine C.lloadN d15_172 rfl ?_
    refine C.ldc2Long (v := (10 : Int64)) (B.1 _ (List.mem_of_getElem? (i := 3) rfl)) d15_173 ?_
    refine C.callS [.long u, .long (10 : Int64)] [.int (2 : Int32), .ref a40, .ref a40, .ref a38, .ref a38] 5 (B.1 _ (List.mem_of_getElem? (i := 23) rfl)) (B.1 _ (List.mem_of_getElem? (i := 24) rfl)) (B.1 _ (List.mem_of_getElem? (i := 17) rfl)) (B.1 _ (List.mem_of_getElem? (i := 25) rfl)) (by decide) pd__28_JJ_29_C rfl id (c_ch B (u := u) (p := (10 : Int64)) h0 (by decide)) d15_176 rfl rfl rfl (by decide) (by decide) (by decide) (by decide) all0 fun v45 h45 z45 K45 q45 => ?_
    obtain ⟨c2, rfl, g2, D2, rfl⟩ := q45
    show C.W h44 [a40, a38] 2 8 (mkF K.m 179 #[.val (.long u), .second, .val (.int n)] [.int c2, .int (2 : Int32), .ref a40, .ref a40, .ref a38, .ref a38])
    refine C.castore 2 Aw44 (by first | rfl | decide) (Nat.le_of_ble_eq_true rfl) (by omega) (by omega) d15_179 (List.mem_of_getElem? (i := 0) rfl) fun h46 z46 K46 Aw46 => ?_
    have Aw46 : Ary Z h46 a40 .char [.int c0, .int c1, .int c2, .int 0] := Aw46
    show C.W h46 [a40, a38] 2 8 (mkF K.m 180 #[.val (.long u), .second, .val (.int n)] [.ref a40, .ref a38, .ref a38])
    refine C.dup rfl d15_180 ?_
    refine C.iconst (v := (3 : Int32)) d15_181 (by first | rfl | decide) ?_
    refine C.lloadN d15_182 rfl ?_
    refine C.lconst (v := (1 : Int64)) d15_183 (by first | rfl | decide) ?_
    refine C.callS [.long u, .long (1 : Int64)] [.int (3 : Int32), .ref a40, .ref a40, .ref a38, .ref a38] 5 (B.1 _ (List.mem_of_getElem? (i := 23) rfl)) (B.1 _ (List.mem_of_getElem? (i := 24) rfl)) (B.1 _ (List.mem_of_getElem? (i := 17) rfl)) (B.1 _ (List.mem_of_getElem? (i := 25) rfl)) (by decide) pd__28_JJ_29_C rfl id (c_ch B (u := u) (p := (1 : Int64)) h0 (by decide)) d15_184 rfl rfl rfl (by decide) (by decide) (by decide) (by decide) all0 fun v47 h47 z47 K47 q47 => ?_
    obtain ⟨c3, rfl, g3, D3, rfl⟩ := q47
    show C.W h46 [a40, a38] 2 8 (mkF K.m 187 #[.val (.long u), .second, .val (.int n)] [.int c3, .int (3 : Int32), .ref a40, .ref a40, .ref a38, .ref a38])
    refine C.castore 3 Aw46 (by first | rfl | decide) (Nat.le_of_ble_eq_true rfl) (by omega) (by omega) d15_187 (List.mem_of_getElem? (i := 0) rfl) fun h48 z48 K48 Aw48 => ?_
    have Aw48 : Ary Z h48 a40 .char [.int c0, .int c1, .int c2, .int c3] := Aw48
    show C.W h48 [a40, a38] 2 8 (mkF K.m 188 #[.val (.long u), .second, .val (.int n)] [.ref a40, .ref a38, .ref a38])
    have hdg : ∀ c ∈ ([c0, c1, c2, c3] : List Int32), 48 ≤ c.toInt ∧ c.toInt ≤ 57 := by
      intro c hc
      simp only [List.mem_cons, List.not_mem_nil, or_false] at hc
      rcases hc with rfl | rfl | rfl | rfl <;> omega
    have En37_49 := (((((En37.keep K39).keep K42).keep K44).keep K46).keep K48)
    have Fv_50 := (((((Fv.keep K39 nin0).keep K42 (ninS (neA (by omega)) nin0)).keep K44 (ninS (neA (by omega)) nin0)).keep K46 (ninS (neA (by omega)) nin0)).keep K48 (ninS (neA (by omega)) nin0))
    have Fc_51 := (((((Fc.keep K39 nin0).keep K42 (ninS (neA (by omega)) nin0)).keep K44 (ninS (neA (by omega)) nin0)).keep K46 (ninS (neA (by omega)) nin0)).keep K48 (ninS (neA (by omega)) nin0))
    refine C.callN a38 [.ref a40] [.ref a38] 1 (B.1 _ (List.mem_of_getElem? (i := 26) rfl)) (B.1 _ (List.mem_of_getElem? (i := 27) rfl)) (B.1 _ (List.mem_of_getElem? (i := 28) rfl)) rfl (by decide) pd__28__5b_C_29_V rfl id (c_init1 B (cs := [c0, c1, c2, c3]) En37_49 Fv_50 Fc_51 Aw48 (Nat.le_of_ble_eq_true rfl) (fun c hc => by have := hdg c hc; omega) (Nat.le_of_ble_eq_true rfl)) d15_188 rfl rfl rfl (by decide) (by decide) (by decide) (by decide) (allS (List.mem_of_getElem? (i := 1) rfl) all0) fun v52 h52 z52 K52 q52 => ?_
    obtain ⟨rfl, S52⟩ := q52
    show C.W h52 [a40, a38] 3 19 (mkF K.m 191 #[.val (.long u), .second, .val (.int n)] [.ref a38])
    exact C.areturn rfl rfl rfl d15_191 (by decide) (by decide) ⟨a38, [c0, c1, c2, c3], rfl, S52, by rw [cn]; rfl, hdg, by rw [cn, show ((10 : Int) ^ (4 : Int).toNat) = 10000 by decide]; exact dig4 (D0.lit (by decide)) (D1.lit (by decide)) (D2.lit (by decide)) (D3.lit (by decide))⟩
  · skip
    refine C.tswIn 192 d15_1 (by omega) (by rw [cn]; rfl) (by decide) (by decide) ?_
    show C.W h [] 0 0 (mkF K.m 192 #[.val (.long u), .second, .val (.int n)] [])
    refine C.new (B.1 _ (List.mem_of_getElem? (i := 19) rfl)) (B.1 _ (List.mem_of_getElem? (i := 20) rfl)) (B.1 _ (List.mem_of_getElem? (i := 21) rfl)) d15_192 (by decide) (by decide) fun h53 a54 g53 z53 o53 K53 En53 Dn53 => ?_
    show C.W h53 [a54] 1 4 (mkF K.m 195 #[.val (.long u), .second, .val (.int n)] [.ref a54])
    have Fv : Fld Z h53 a54 "java/lang/String" "value" "[B" (.null) := Dn53 (Or.inr (B.1 _ (List.mem_of_getElem? (i := 51) rfl))) (ty := (.array .byte)) (by decide)
    have Fc : Fld Z h53 a54 "java/lang/String" "coder" "B" (.int 0) := Dn53 (Or.inr (B.1 _ (List.mem_of_getElem? (i := 49) rfl))) (ty := .byte) (by decide)
    refine C.dup rfl d15_195 ?_
    refine C.iconst (v := (5 : Int32)) d15_196 (by first | rfl | decide) ?_
    refine C.newarr 5 5 (B.1 _ (List.mem_of_getElem? (i := 22) rfl)) d15_197 (by first | rfl | decide) (by decide) (by decide) (by decide) (by decide) fun h55 a56 g55 z55 o55 K55 An55 => ?_
    have An55 : Ary Z h55 a56 .char [.int 0, .int 0, .int 0, .int 0, .int 0] := An55
    show C.W h55 [a56, a54] 2 9 (mkF K.m 199 #[.val (.long u), .second, .val (.int n)] [.ref a56, .ref a54, .ref a54])
    refine C.dup rfl d15_199 ?_
    refine C.iconst (v := (0 : Int32)) d15_200 (by first | rfl | decide) ?_
    refine C.lloadN d15_201 rfl ?_
    refine C.ldc2Long (v := (10000 : Int64)) (B.1 _ (List.mem_of_getElem? (i := 6) rfl)) d15_202 ?_
    refine C.callS [.long u, .long (10000 : Int64)] [.int (0 : Int32), .ref a56, .ref a56, .ref a54, .ref a54] 5 (B.1 _ (List.mem_of_getElem? (i := 23) rfl)) (B.1 _ (List.mem_of_getElem? (i := 24) rfl)) (B.1 _ (List.mem_of_getElem? (i := 17) rfl)) (B.1 _ (List.mem_of_getElem? (i := 25) rfl)) (by decide) pd__28_JJ_29_C rfl id (c_ch B (u := u) (p := (10000 : Int64)) h0 (by decide)) d15_205 rfl rfl rfl (by decide) (by decide) (by decide) (by decide) all0 fun v57 h57 z57 K57 q57 => ?_
    obtain ⟨c0, rfl, g0, D0, rfl⟩ := q57
    show C.W h55 [a56, a54] 2 9 (mkF K.m 208 #[.val (.long u), .second, .val (.int n)] [.int c0, .int (0 : Int32), .ref a56, .ref a56, .ref a54, .ref a54])
    refine C.castore 0 An55 (by first | rfl | decide) (Nat.le_of_ble_eq_true rfl) (by omega) (by omega) d15_208 (List.mem_of_getElem? (i := 0) rfl) fun h58 z58 K58 Aw58 => ?_
    have Aw58 : Ary Z h58 a56 .char [.int c0, .int 0, .int 0, .int 0, .int 0] := Aw58
    show C.W h58 [a56, a54] 2 9 (mkF K.m 209 #[.val (.long u), .second, .val (.int n)] [.ref a56, .ref a54, .ref a54])
    refine C.dup rfl d15_209 ?_
    refine C.iconst (v := (1 : Int32)) d15_210 (by first | rfl | decide) ?_
    refine C.lloadN d15_211 rfl ?_
    refine C.ldc2Long (v := (1000 : Int64)) (B.1 _ (List.mem_of_getElem? (i := 5) rfl)) d15_212 ?_
    refine C.callS [.long u, .long (1000 : Int64)] [.int (1 : Int32), .ref a56, .ref a56, .ref a54, .ref a54] 5 (B.1 _ (List.mem_of_getElem? (i := 23) rfl)) (B.1 _ (List.mem_of_getElem? (i := 24) rfl)) (B.1 _ (List.mem_of_getElem? (i := 17) rfl)) (B.1 _ (List.mem_of_getElem? (i := 25) rfl)) (by decide) pd__28_JJ_29_C rfl id (c_ch B (u := u) (p := (1000 : Int64)) h0 (by decide)) d15_215 rfl rfl rfl (by decide) (by decide) (by decide) (by decide) all0 fun v59 h59 z59 K59 q59 => ?_
    obtain ⟨c1, rfl, g1, D1, rfl⟩ := q59
    show C.W h58 [a56, a54] 2 9 (mkF K.m 218 #[.val (.long u), .second, .val (.int n)] [.int c1, .int (1 : Int32), .ref a56, .ref a56, .ref a54, .ref a54])
    refine C.castore 1 Aw58 (by first | rfl | decide) (Nat.le_of_ble_eq_true rfl) (by omega) (by omega) d15_218 (List.mem_of_getElem? (i := 0) rfl) fun h60 z60 K60 Aw60 => ?_
    have Aw60 : Ary Z h60 a56 .char [.int c0, .int c1, .int 0, .int 0, .int 0] := Aw60
    show C.W h60 [a56, a54] 2 9 (mkF K.m 219 #[.val (.long u), .second, .val (.int n)] [.ref a56, .ref a54, .ref a54])
    refine C.dup rfl d15_219 ?_
    refine C.iconst (v := (2 : Int32)) d15_220 (by first | rfl | decide) ?_
    refine C.lloadN d15_221 rfl ?_
    refine C.ldc2Long (v := (100 : Int64)) (B.1 _ (List.mem_of_getElem? (i := 4) rfl)) d15_222 ?_
    refine C.callS [.long u, .long (100 : Int64)] [.int (2 : Int32), .ref a56, .ref a56, .ref a54, .ref a54] 5 (B.1 _ (List.mem_of_getElem? (i := 23) rfl)) (B.1 _ (List.mem_of_getElem? (i := 24) rfl)) (B.1 _ (List.mem_of_getElem? (i := 17) rfl)) (B.1 _ (List.mem_of_getElem? (i := 25) rfl)) (by decide) pd__28_JJ_29_C rfl id (c_ch B (u := u) (p := (100 : Int64)) h0 (by decide)) d15_225 rfl rfl rfl (by decide) (by decide) (by decide) (by decide) all0 fun v61 h61 z61 K61 q61 => ?_
    obtain ⟨c2, rfl, g2, D2, rfl⟩ := q61
    show C.W h60 [a56, a54] 2 9 (mkF K.m 228 #[.val (.long u), .second, .val (.int n)] [.int c2, .int (2 : Int32), .ref a56, .ref a56, .ref a54, .ref a54])
    refine C.castore 2 Aw60 (by first | rfl | decide) (Nat.le_of_ble_eq_true rfl) (by omega) (by omega) d15_228 (List.mem_of_getElem? (i := 0) rfl) fun h62 z62 K62 Aw62 => ?_
    have Aw62 : Ary Z h62 a56 .char [.int c0, .int c1, .int c2, .int 0, .int 0] := Aw62
    show C.W h62 [a56, a54] 2 9 (mkF K.m 229 #[.val (.long u), .second, .val (.int n)] [.ref a56, .ref a54, .ref a54])
    refine C.dup rfl d15_229 ?_
    refine C.iconst (v := (3 : Int32)) d15_230 (by first | rfl | decide) ?_
    refine C.lloadN d15_231 rfl ?_
    refine C.ldc2Long (v := (10 : Int64)) (B.1 _ (List.mem_of_getElem? (i := 3) rfl)) d15_232 ?_
    refine C.callS [.long u, .long (10 : Int64)] [.int (3 : Int32), .ref a56, .ref a56, .ref a54, .ref a54] 5 (B.1 _ (List.mem_of_getElem? (i := 23) rfl)) (B.1 _ (List.mem_of_getElem? (i := 24) rfl)) (B.1 _ (List.mem_of_getElem? (i := 17) rfl)) (B.1 _ (List.mem_of_getElem? (i := 25) rfl)) (by decide) pd__28_JJ_29_C rfl id (c_ch B (u := u) (p := (10 : Int64)) h0 (by decide)) d15_235 rfl rfl rfl (by decide) (by decide) (by decide) (by decide) all0 fun v63 h63 z63 K63 q63 => ?_
    obtain ⟨c3, rfl, g3, D3, rfl⟩ := q63
    show C.W h62 [a56, a54] 2 9 (mkF K.m 238 #[.val (.long u), .second, .val (.int n)] [.int c3, .int (3 : Int32), .ref a56, .ref a56, .ref a54, .ref a54])
    refine C.castore 3 Aw62 (by first | rfl | decide) (Nat.le_of_ble_eq_true rfl) (by omega) (by omega) d15_238 (List.mem_of_getElem? (i := 0) rfl) fun h64 z64 K64 Aw64 => ?_
    have Aw64 : Ary Z h64 a56 .char [.int c0, .int c1, .int c2, .int c3, .int 0] := Aw64
    show C.W h64 [a56, a54] 2 9 (mkF K.m 239 #[.val (.long u), .second, .val (.int n)] [.ref a56, .ref a54, .ref a54])
    refine C.dup rfl d15_239 ?_
    refine C.iconst (v := (4 : Int32)) d15_240 (by first | rfl | decide) ?_
    refine C.lloadN d15_241 rfl ?_
    refine C.lconst (v := (1 : Int64)) d15_242 (by first | rfl | decide) ?_
    refine C.callS [.long u, .long (1 : Int64)] [.int (4 : Int32), .ref a56, .ref a56, .ref a54, .ref a54] 5 (B.1 _ (List.mem_of_getElem? (i := 23) rfl)) (B.1 _ (List.mem_of_getElem? (i := 24) rfl)) (B.1 _ (List.mem_of_getElem? (i := 17) rfl)) (B.1 _ (List.mem_of_getElem? (i := 25) rfl)) (by decide) pd__28_JJ_29_C rfl id (c_ch B (u := u) (p := (1 : Int64)) h0 (by decide)) d15_243 rfl rfl rfl (by decide) (by decide) (by decide) (by decide) all0 fun v65 h65 z65 K65 q65 => ?_
    obtain ⟨c4, rfl, g4, D4, rfl⟩ := q65
    show C.W h64 [a56, a54] 2 9 (mkF K.m 246 #[.val (.long u), .second, .val (.int n)] [.int c4, .int (4 : Int32), .ref a56, .ref a56, .ref a54, .ref a54])
    refine C.castore 4 Aw64 (by first | rfl | decide) (Nat.le_of_ble_eq_true rfl) (by omega) (by omega) d15_246 (List.mem_of_getElem? (i := 0) rfl) fun h66 z66 K66 Aw66 => ?_
    have Aw66 : Ary Z h66 a56 .char [.int c0, .int c1, .int c2, .int c3, .int c4] := Aw66
    show C.W h66 [a56, a54] 2 9 (mkF K.m 247 #[.val (.long u), .second, .val (.int n)] [.ref a56, .ref a54, .ref a54])
    have hdg : ∀ c ∈ ([c0, c1, c2, c3, c4] : List Int32), 48 ≤ c.toInt ∧ c.toInt ≤ 57 := by
      intro c hc
      simp only [List.mem_cons, List.not_mem_nil, or_false] at hc
      rcases hc with rfl | rfl | rfl | rfl | rfl <;> omega
    have En53_67 := ((((((En53.keep K55).keep K58).keep K60).keep K62).keep K64).keep K66)
    have Fv_68 := ((((((Fv.keep K55 nin0).keep K58 (ninS (neA (by omega)) nin0)).keep K60 (ninS (neA (by omega)) nin0)).keep K62 (ninS (neA (by omega)) nin0)).keep K64 (ninS (neA (by omega)) nin0)).keep K66 (ninS (neA (by omega)) nin0))
    have Fc_69 := ((((((Fc.keep K55 nin0).keep K58 (ninS (neA (by omega)) nin0)).keep K60 (ninS (neA (by omega)) nin0)).keep K62 (ninS (neA (by omega)) nin0)).keep K64 (ninS (neA (by omega)) nin0)).keep K66 (ninS (neA (by omega)) nin0))
    refine C.callN a54 [.ref a56] [.ref a54] 1 (B.1 _ (List.mem_of_getElem? (i := 26) rfl)) (B.1 _ (List.mem_of_getElem? (i := 27) rfl)) (B.1 _ (List.mem_of_getElem? (i := 28) rfl)) rfl (by decide) pd__28__5b_C_29_V rfl id (c_init1 B (cs := [c0, c1, c2, c3, c4]) En53_67 Fv_68 Fc_69 Aw66 (Nat.le_of_ble_eq_true rfl) (fun c hc => by have := hdg c hc; omega) (Nat.le_of_ble_eq_true rfl)) d15_247 rfl rfl rfl (by decide) (by decide) (by decide) (by decide) (allS (List.mem_of_getElem? (i := 1) rfl) all0) fun v70 h70 z70 K70 q70 => ?_
    obtain ⟨rfl, S70⟩ := q70
    show C.W h70 [a56, a54] 3 20 (mkF K.m 250 #[.val (.long u), .second, .val (.int n)] [.ref a54])
    exact C.areturn rfl rfl rfl d15_250 (by decide) (by decide) ⟨a54, [c0, c1, c2, c3, c4], rfl, S70, by rw [cn]; rfl, hdg, by rw [cn, show ((10 : Int) ^ (5 : Int).toNat) = 100000 by decide]; exact dig5 (D0.lit (by decide)) (D1.lit (by decide)) (D2.lit (by decide)) (D3.lit (by decide)) (D4.lit (by decide))⟩
  · skip
    refine C.tswIn 251 d15_1 (by omega) (by rw [cn]; rfl) (by decide) (by decide) ?_
    show C.W h [] 0 0 (mkF K.m 251 #[.val (.long u), .second, .val (.int n)] [])
    refine C.new (B.1 _ (List.mem_of_getElem? (i := 19) rfl)) (B.1 _ (List.mem_of_getElem? (i := 20) rfl)) (B.1 _ (List.mem_of_getElem? (i := 21) rfl)) d15_251 (by decide) (by decide) fun h71 a72 g71 z71 o71 K71 En71 Dn71 => ?_
    show C.W h71 [a72] 1 4 (mkF K.m 254 #[.val (.long u), .second, .val (.int n)] [.ref a72])
    have Fv : Fld Z h71 a72 "java/lang/String" "value" "[B" (.null) := Dn71 (Or.inr (B.1 _ (List.mem_of_getElem? (i := 51) rfl))) (ty := (.array .byte)) (by decide)
    have Fc : Fld Z h71 a72 "java/lang/String" "coder" "B" (.int 0) := Dn71 (Or.inr (B.1 _ (List.mem_of_getElem? (i := 49) rfl))) (ty := .byte) (by decide)
    refine C.dup rfl d15_254 ?_
    refine C.bipush (v := (6 : Int32)) d15_255 (by first | rfl | decide) ?_
    refine C.newarr 6 6 (B.1 _ (List.mem_of_getElem? (i := 22) rfl)) d15_257 (by first | rfl | decide) (by decide) (by decide) (by decide) (by decide) fun h73 a74 g73 z73 o73 K73 An73 => ?_
    have An73 : Ary Z h73 a74 .char [.int 0, .int 0, .int 0, .int 0, .int 0, .int 0] := An73
    show C.W h73 [a74, a72] 2 10 (mkF K.m 259 #[.val (.long u), .second, .val (.int n)] [.ref a74, .ref a72, .ref a72])
    refine C.dup rfl d15_259 ?_
    refine C.iconst (v := (0 : Int32)) d15_260 (by first | rfl | decide) ?_
    refine C.lloadN d15_261 rfl ?_
    refine C.ldc2Long (v := (100000 : Int64)) (B.1 _ (List.mem_of_getElem? (i := 7) rfl)) d15_262 ?_
    refine C.callS [.long u, .long (100000 : Int64)] [.int (0 : Int32), .ref a74, .ref a74, .ref a72, .ref a72] 5 (B.1 _ (List.mem_of_getElem? (i := 23) rfl)) (B.1 _ (List.mem_of_getElem? (i := 24) rfl)) (B.1 _ (List.mem_of_getElem? (i := 17) rfl)) (B.1 _ (List.mem_of_getElem? (i := 25) rfl)) (by decide) pd__28_JJ_29_C rfl id (c_ch B (u := u) (p := (100000 : Int64)) h0 (by decide)) d15_265 rfl rfl rfl (by decide) (by decide) (by decide) (by decide) all0 fun v75 h75 z75 K75 q75 => ?_
    obtain ⟨c0, rfl, g0, D0, rfl⟩ := q75
    show C.W h73 [a74, a72] 2 10 (mkF K.m 268 #[.val (.long u), .second, .val (.int n)] [.int c0, .int (0 : Int32), .ref a74, .ref a74, .ref a72, .ref a72])
    refine C.castore 0 An73 (by first | rfl | decide) (Nat.le_of_ble_eq_true rfl) (by omega) (by omega) d15_268 (List.mem_of_getElem? (i := 0) rfl) fun h76 z76 K76 Aw76 => ?_
    have Aw76 : Ary Z h76 a74 .char [.int c0, .int 0, .int 0, .int 0, .int 0, .int 0] := Aw76
    show C.W h76 [a74, a72] 2 10 (mkF K.m 269 #[.val (.long u), .second, .val (.int n)] [.ref a74, .ref a72, .ref a72])
    refine C.dup rfl d15_269 ?_
    refine C.iconst (v := (1 : Int32)) d15_270 (by first | rfl | decide) ?_
    refine C.lloadN d15_271 rfl ?_
    refine C.ldc2Long (v := (10000 : Int64)) (B.1 _ (List.mem_of_getElem? (i := 6) rfl)) d15_272 ?_
    refine C.callS [.long u, .long (10000 : Int64)] [.int (1 : Int32), .ref a74, .ref a74, .ref a72, .ref a72] 5 (B.1 _ (List.mem_of_getElem? (i := 23) rfl)) (B.1 _ (List.mem_of_getElem? (i := 24) rfl)) (B.1 _ (List.mem_of_getElem? (i := 17) rfl)) (B.1 _ (List.mem_of_getElem? (i := 25) rfl)) (by decide) pd__28_JJ_29_C rfl id (c_ch B (u := u) (p := (10000 : Int64)) h0 (by decide)) d15_275 rfl rfl rfl (by decide) (by decide) (by decide) (by decide) all0 fun v77 h77 z77 K77 q77 => ?_
    obtain ⟨c1, rfl, g1, D1, rfl⟩ := q77
    show C.W h76 [a74, a72] 2 10 (mkF K.m 278 #[.val (.long u), .second, .val (.int n)] [.int c1, .int (1 : Int32), .ref a74, .ref a74, .ref a72, .ref a72])
    refine C.castore 1 Aw76 (by first | rfl | decide) (Nat.le_of_ble_eq_true rfl) (by omega) (by omega) d15_278 (List.mem_of_getElem? (i := 0) rfl) fun h78 z78 K78 Aw78 => ?_
    have Aw78 : Ary Z h78 a74 .char [.int c0, .int c1, .int 0, .int 0, .int 0, .int 0] := Aw78
    show C.W h78 [a74, a72] 2 10 (mkF K.m 279 #[.val (.long u), .second, .val (.int n)] [.ref a74, .ref a72, .ref a72])
    refine C.dup rfl d15_279 ?_
    refine C.iconst (v := (2 : Int32)) d15_280 (by first | rfl | decide) ?_
    refine C.lloadN d15_281 rfl ?_
    refine C.ldc2Long (v := (1000 : Int64)) (B.1 _ (List.mem_of_getElem? (i := 5) rfl)) d15_282 ?_
    refine C.callS [.long u, .long (1000 : Int64)] [.int (2 : Int32), .ref a74, .ref a74, .ref a72, .ref a72] 5 (B.1 _ (List.mem_of_getElem? (i := 23) rfl)) (B.1 _ (List.mem_of_getElem? (i := 24) rfl)) (B.1 _ (List.mem_of_getElem? (i := 17) rfl)) (B.1 _ (List.mem_of_getElem? (i := 25) rfl)) (by decide) pd__28_JJ_29_C rfl id (c_ch B (u := u) (p := (1000 : Int64)) h0 (by decide)) d15_285 rfl rfl rfl (by decide) (by decide) (by decide) (by decide) all0 fun v79 h79 z79 K79 q79 => ?_
    obtain ⟨c2, rfl, g2, D2, rfl⟩ := q79
    show C.W h78 [a74, a72] 2 10 (mkF K.m 288 #[.val (.long u), .second, .val (.int n)] [.int c2, .int (2 : Int32), .ref a74, .ref a74, .ref a72, .ref a72])
    refine C.castore 2 Aw78 (by first | rfl | decide) (Nat.le_of_ble_eq_true rfl) (by omega) (by omega) d15_288 (List.mem_of_getElem? (i := 0) rfl) fun h80 z80 K80 Aw80 => ?_
    have Aw80 : Ary Z h80 a74 .char [.int c0, .int c1, .int c2, .int 0, .int 0, .int 0] := Aw80
    show C.W h80 [a74, a72] 2 10 (mkF K.m 289 #[.val (.long u), .second, .val (.int n)] [.ref a74, .ref a72, .ref a72])
    refine C.dup rfl d15_289 ?_
    refine C.iconst (v := (3 : Int32)) d15_290 (by first | rfl | decide) ?_
    refine C.lloadN d15_291 rfl ?_
    refine C.ldc2Long (v := (100 : Int64)) (B.1 _ (List.mem_of_getElem? (i := 4) rfl)) d15_292 ?_
    refine C.callS [.long u, .long (100 : Int64)] [.int (3 : Int32), .ref a74, .ref a74, .ref a72, .ref a72] 5 (B.1 _ (List.mem_of_getElem? (i := 23) rfl)) (B.1 _ (List.mem_of_getElem? (i := 24) rfl)) (B.1 _ (List.mem_of_getElem? (i := 17) rfl)) (B.1 _ (List.mem_of_getElem? (i := 25) rfl)) (by decide) pd__28_JJ_29_C rfl id (c_ch B (u := u) (p := (100 : Int64)) h0 (by decide)) d15_295 rfl rfl rfl (by decide) (by decide) (by decide) (by decide) all0 fun v81 h81 z81 K81 q81 => ?_
    obtain ⟨c3, rfl, g3, D3, rfl⟩ := q81
    show C.W h80 [a74, a72] 2 10 (mkF K.m 298 #[.val (.long u), .second, .val (.int n)] [.int c3, .int (3 : Int32), .ref a74, .ref a74, .ref a72, .ref a72])
    refine C.castore 3 Aw80 (by first | rfl | decide) (Nat.le_of_ble_eq_true rfl) (by omega) (by omega) d15_298 (List.mem_of_getElem? (i := 0) rfl) fun h82 z82 K82 Aw82 => ?_
    have Aw82 : Ary Z h82 a74 .char [.int c0, .int c1, .int c2, .int c3, .int 0, .int 0] := Aw82
    show C.W h82 [a74, a72] 2 10 (mkF K.m 299 #[.val (.long u), .second, .val (.int n)] [.ref a74, .ref a72, .ref a72])
    refine C.dup rfl d15_299 ?_
    refine C.iconst (v := (4 : Int32)) d15_300 (by first | rfl | decide) ?_
    refine C.lloadN d15_301 rfl ?_
    refine C.ldc2Long (v := (10 : Int64)) (B.1 _ (List.mem_of_getElem? (i := 3) rfl)) d15_302 ?_
    refine C.callS [.long u, .long (10 : Int64)] [.int (4 : Int32), .ref a74, .ref a74, .ref a72, .ref a72] 5 (B.1 _ (List.mem_of_getElem? (i := 23) rfl)) (B.1 _ (List.mem_of_getElem? (i := 24) rfl)) (B.1 _ (List.mem_of_getElem? (i := 17) rfl)) (B.1 _ (List.mem_of_getElem? (i := 25) rfl)) (by decide) pd__28_JJ_29_C rfl id (c_ch B (u := u) (p := (10 : Int64)) h0 (by decide)) d15_305 rfl rfl rfl (by decide) (by decide) (by decide) (by decide) all0 fun v83 h83 z83 K83 q83 => ?_
    obtain ⟨c4, rfl, g4, D4, rfl⟩ := q83
    show C.W h82 [a74, a72] 2 10 (mkF K.m 308 #[.val (.long u), .second, .val (.int n)] [.int c4, .int (4 : Int32), .ref a74, .ref a74, .ref a72, .ref a72])
    refine C.castore 4 Aw82 (by first | rfl | decide) (Nat.le_of_ble_eq_true rfl) (by omega) (by omega) d15_308 (List.mem_of_getElem? (i := 0) rfl) fun h84 z84 K84 Aw84 => ?_
    have Aw84 : Ary Z h84 a74 .char [.int c0, .int c1, .int c2, .int c3, .int c4, .int 0] := Aw84
    show C.W h84 [a74, a72] 2 10 (mkF K.m 309 #[.val (.long u), .second, .val (.int n)] [.ref a74, .ref a72, .ref a72])
    refine C.dup rfl d15_309 ?_
    refine C.iconst (v := (5 : Int32)) d15_310 (by first | rfl | decide) ?_
    refine C.lloadN d15_311 rfl ?_
    refine C.lconst (v := (1 : Int64)) d15_312 (by first | rfl | decide) ?_
    refine C.callS [.long u, .long (1 : Int64)] [.int (5 : Int32), .ref a74, .ref a74, .ref a72, .ref a72] 5 (B.1 _ (List.mem_of_getElem? (i := 23) rfl)) (B.1 _ (List.mem_of_getElem? (i := 24) rfl)) (B.1 _ (List.mem_of_getElem? (i := 17) rfl)) (B.1 _ (List.mem_of_getElem? (i := 25) rfl)) (by decide) pd__28_JJ_29_C rfl id (c_ch B (u := u) (p := (1 : Int64)) h0 (by decide)) d15_313 rfl rfl rfl (by decide) (by decide) (by decide) (by decide) all0 fun v85 h85 z85 K85 q85 => ?_
    obtain ⟨c5, rfl, g5, D5, rfl⟩ := q85
    show C.W h84 [a74, a72] 2 10 (mkF K.m 316 #[.val (.long u), .second, .val (.int n)] [.int c5, .int (5 : Int32), .ref a74, .ref a74, .ref a72, .ref a72])
    refine C.castore 5 Aw84 (by first | rfl | decide) (Nat.le_of_ble_eq_true rfl) (by omega) (by omega) d15_316 (List.mem_of_getElem? (i := 0) rfl) fun h86 z86 K86 Aw86 => ?_
    have Aw86 : Ary Z h86 a74 .char [.int c0, .int c1, .int c2, .int c3, .int c4, .int c5] := Aw86
    show C.W h86 [a74, a72] 2 10 (mkF K.m 317 #[.val (.long u), .second, .val (.int n)] [.ref a74, .ref a72, .ref a72])
    have hdg : ∀ c ∈ ([c0, c1, c2, c3, c4, c5] : List Int32), 48 ≤ c.toInt ∧ c.toInt ≤ 57 := by
      intro c hc
      simp only [List.mem_cons, List.not_mem_nil, or_false] at hc
      rcases hc with rfl | rfl | rfl | rfl | rfl | rfl <;> omega
    have En71_87 := (((((((En71.keep K73).keep K76).keep K78).keep K80).keep K82).keep K84).keep K86)
    have Fv_88 := (((((((Fv.keep K73 nin0).keep K76 (ninS (neA (by omega)) nin0)).keep K78 (ninS (neA (by omega)) nin0)).keep K80 (ninS (neA (by omega)) nin0)).keep K82 (ninS (neA (by omega)) nin0)).keep K84 (ninS (neA (by omega)) nin0)).keep K86 (ninS (neA (by omega)) nin0))
    have Fc_89 := (((((((Fc.keep K73 nin0).keep K76 (ninS (neA (by omega)) nin0)).keep K78 (ninS (neA (by omega)) nin0)).keep K80 (ninS (neA (by omega)) nin0)).keep K82 (ninS (neA (by omega)) nin0)).keep K84 (ninS (neA (by omega)) nin0)).keep K86 (ninS (neA (by omega)) nin0))
    refine C.callN a72 [.ref a74] [.ref a72] 1 (B.1 _ (List.mem_of_getElem? (i := 26) rfl)) (B.1 _ (List.mem_of_getElem? (i := 27) rfl)) (B.1 _ (List.mem_of_getElem? (i := 28) rfl)) rfl (by decide) pd__28__5b_C_29_V rfl id (c_init1 B (cs := [c0, c1, c2, c3, c4, c5]) En71_87 Fv_88 Fc_89 Aw86 (Nat.le_of_ble_eq_true rfl) (fun c hc => by have := hdg c hc; omega) (Nat.le_of_ble_eq_true rfl)) d15_317 rfl rfl rfl (by decide) (by decide) (by decide) (by decide) (allS (List.mem_of_getElem? (i := 1) rfl) all0) fun v90 h90 z90 K90 q90 => ?_
    obtain ⟨rfl, S90⟩ := q90
    show C.W h90 [a74, a72] 3 21 (mkF K.m 320 #[.val (.long u), .second, .val (.int n)] [.ref a72])
    exact C.areturn rfl rfl rfl d15_320 (by decide) (by decide) ⟨a72, [c0, c1, c2, c3, c4, c5], rfl, S90, by rw [cn]; rfl, hdg, by rw [cn, show ((10 : Int) ^ (6 : Int).toNat) = 1000000 by decide]; exact dig6 (D0.lit (by decide)) (D1.lit (by decide)) (D2.lit (by decide)) (D3.lit (by decide)) (D4.lit (by decide)) (D5.lit (by decide))⟩
  · skip
    refine C.tswIn 321 d15_1 (by omega) (by rw [cn]; rfl) (by decide) (by decide) ?_
    show C.W h [] 0 0 (mkF K.m 321 #[.val (.long u), .second, .val (.int n)] [])
    refine C.new (B.1 _ (List.mem_of_getElem? (i := 19) rfl)) (B.1 _ (List.mem_of_getElem? (i := 20) rfl)) (B.1 _ (List.mem_of_getElem? (i := 21) rfl)) d15_321 (by decide) (by decide) fun h91 a92 g91 z91 o91 K91 En91 Dn91 => ?_
    show C.W h91 [a92] 1 4 (mkF K.m 324 #[.val (.long u), .second, .val (.int n)] [.ref a92])
    have Fv : Fld Z h91 a92 "java/lang/String" "value" "[B" (.null) := Dn91 (Or.inr (B.1 _ (List.mem_of_getElem? (i := 51) rfl))) (ty := (.array .byte)) (by decide)
    have Fc : Fld Z h91 a92 "java/lang/String" "coder" "B" (.int 0) := Dn91 (Or.inr (B.1 _ (List.mem_of_getElem? (i := 49) rfl))) (ty := .byte) (by decide)
    refine C.dup rfl d15_324 ?_
    refine C.bipush (v := (7 : Int32)) d15_325 (by first | rfl | decide) ?_
    refine C.newarr 7 7 (B.1 _ (List.mem_of_getElem? (i := 22) rfl)) d15_327 (by first | rfl | decide) (by decide) (by decide) (by decide) (by decide) fun h93 a94 g93 z93 o93 K93 An93 => ?_
    have An93 : Ary Z h93 a94 .char [.int 0, .int 0, .int 0, .int 0, .int 0, .int 0, .int 0] := An93
    show C.W h93 [a94, a92] 2 11 (mkF K.m 329 #[.val (.long u), .second, .val (.int n)] [.ref a94, .ref a92, .ref a92])
    refine C.dup rfl d15_329 ?_
    refine C.iconst (v := (0 : Int32)) d15_330 (by first | rfl | decide) ?_
    refine C.lloadN d15_331 rfl ?_
    refine C.ldc2Long (v := (1000000 : Int64)) (B.1 _ (List.mem_of_getElem? (i := 8) rfl)) d15_332 ?_
    refine C.callS [.long u, .long (1000000 : Int64)] [.int (0 : Int32), .ref a94, .ref a94, .ref a92, .ref a92] 5 (B.1 _ (List.mem_of_getElem? (i := 23) rfl)) (B.1 _ (List.mem_of_getElem? (i := 24) rfl)) (B.1 _ (List.mem_of_getElem? (i := 17) rfl)) (B.1 _ (List.mem_of_getElem? (i := 25) rfl)) (by decide) pd__28_JJ_29_C rfl id (c_ch B (u := u) (p := (1000000 : Int64)) h0 (by decide)) d15_335 rfl rfl rfl (by decide) (by decide) (by decide) (by decide) all0 fun v95 h95 z95 K95 q95 => ?_
    obtain ⟨c0, rfl, g0, D0, rfl⟩ := q95
    show C.W h93 [a94, a92] 2 11 (mkF K.m 338 #[.val (.long u), .second, .val (.int n)] [.int c0, .int (0 : Int32), .ref a94, .ref a94, .ref a92, .ref a92])
    refine C.castore 0 An93 (by first | rfl | decide) (Nat.le_of_ble_eq_true rfl) (by omega) (by omega) d15_338 (List.mem_of_getElem? (i := 0) rfl) fun h96 z96 K96 Aw96 => ?_
    have Aw96 : Ary Z h96 a94 .char [.int c0, .int 0, .int 0, .int 0, .int 0, .int 0, .int 0] := Aw96
    show C.W h96 [a94, a92] 2 11 (mkF K.m 339 #[.val (.long u), .second, .val (.int n)] [.ref a94, .ref a92, .ref a92])
    refine C.dup rfl d15_339 ?_
    refine C.iconst (v := (1 : Int32)) d15_340 (by first | rfl | decide) ?_
    refine C.lloadN d15_341 rfl ?_
    refine C.ldc2Long (v := (100000 : Int64)) (B.1 _ (List.mem_of_getElem? (i := 7) rfl)) d15_342 ?_
    refine C.callS [.long u, .long (100000 : Int64)] [.int (1 : Int32), .ref a94, .ref a94, .ref a92, .ref a92] 5 (B.1 _ (List.mem_of_getElem? (i := 23) rfl)) (B.1 _ (List.mem_of_getElem? (i := 24) rfl)) (B.1 _ (List.mem_of_getElem? (i := 17) rfl)) (B.1 _ (List.mem_of_getElem? (i := 25) rfl)) (by decide) pd__28_JJ_29_C rfl id (c_ch B (u := u) (p := (100000 : Int64)) h0 (by decide)) d15_345 rfl rfl rfl (by decide) (by decide) (by decide) (by decide) all0 fun v97 h97 z97 K97 q97 => ?_
    obtain ⟨c1, rfl, g1, D1, rfl⟩ := q97
    show C.W h96 [a94, a92] 2 11 (mkF K.m 348 #[.val (.long u), .second, .val (.int n)] [.int c1, .int (1 : Int32), .ref a94, .ref a94, .ref a92, .ref a92])
    refine C.castore 1 Aw96 (by first | rfl | decide) (Nat.le_of_ble_eq_true rfl) (by omega) (by omega) d15_348 (List.mem_of_getElem? (i := 0) rfl) fun h98 z98 K98 Aw98 => ?_
    have Aw98 : Ary Z h98 a94 .char [.int c0, .int c1, .int 0, .int 0, .int 0, .int 0, .int 0] := Aw98
    show C.W h98 [a94, a92] 2 11 (mkF K.m 349 #[.val (.long u), .second, .val (.int n)] [.ref a94, .ref a92, .ref a92])
    refine C.dup rfl d15_349 ?_
    refine C.iconst (v := (2 : Int32)) d15_350 (by first | rfl | decide) ?_
    refine C.lloadN d15_351 rfl ?_
    refine C.ldc2Long (v := (10000 : Int64)) (B.1 _ (List.mem_of_getElem? (i := 6) rfl)) d15_352 ?_
    refine C.callS [.long u, .long (10000 : Int64)] [.int (2 : Int32), .ref a94, .ref a94, .ref a92, .ref a92] 5 (B.1 _ (List.mem_of_getElem? (i := 23) rfl)) (B.1 _ (List.mem_of_getElem? (i := 24) rfl)) (B.1 _ (List.mem_of_getElem? (i := 17) rfl)) (B.1 _ (List.mem_of_getElem? (i := 25) rfl)) (by decide) pd__28_JJ_29_C rfl id (c_ch B (u := u) (p := (10000 : Int64)) h0 (by decide)) d15_355 rfl rfl rfl (by decide) (by decide) (by decide) (by decide) all0 fun v99 h99 z99 K99 q99 => ?_
    obtain ⟨c2, rfl, g2, D2, rfl⟩ := q99
    show C.W h98 [a94, a92] 2 11 (mkF K.m 358 #[.val (.long u), .second, .val (.int n)] [.int c2, .int (2 : Int32), .ref a94, .ref a94, .ref a92, .ref a92])
    refine C.castore 2 Aw98 (by first | rfl | decide) (Nat.le_of_ble_eq_true rfl) (by omega) (by omega) d15_358 (List.mem_of_getElem? (i := 0) rfl) fun h100 z100 K100 Aw100 => ?_
    have Aw100 : Ary Z h100 a94 .char [.int c0, .int c1, .int c2, .int 0, .int 0, .int 0, .int 0] := Aw100
    show C.W h100 [a94, a92] 2 11 (mkF K.m 359 #[.val (.long u), .second, .val (.int n)] [.ref a94, .ref a92, .ref a92])
    refine C.dup rfl d15_359 ?_
    refine C.iconst (v := (3 : Int32)) d15_360 (by first | rfl | decide) ?_
    refine C.lloadN d15_361 rfl ?_
    refine C.ldc2Long (v := (1000 : Int64)) (B.1 _ (List.mem_of_getElem? (i := 5) rfl)) d15_362 ?_
    refine C.callS [.long u, .long (1000 : Int64)] [.int (3 : Int32), .ref a94, .ref a94, .ref a92, .ref a92] 5 (B.1 _ (List.mem_of_getElem? (i := 23) rfl)) (B.1 _ (List.mem_of_getElem? (i := 24) rfl)) (B.1 _ (List.mem_of_getElem? (i := 17) rfl)) (B.1 _ (List.mem_of_getElem? (i := 25) rfl)) (by decide) pd__28_JJ_29_C rfl id (c_ch B (u := u) (p := (1000 : Int64)) h0 (by decide)) d15_365 rfl rfl rfl (by decide) (by decide) (by decide) (by decide) all0 fun v101 h101 z101 K101 q101 => ?_
    obtain ⟨c3, rfl, g3, D3, rfl⟩ := q101
    show C.W h100 [a94, a92] 2 11 (mkF K.m 368 #[.val (.long u), .second, .val (.int n)] [.int c3, .int (3 : Int32), .ref a94, .ref a94, .ref a92, .ref a92])
    refine C.castore 3 Aw100 (by first | rfl | decide) (Nat.le_of_ble_eq_true rfl) (by omega) (by omega) d15_368 (List.mem_of_getElem? (i := 0) rfl) fun h102 z102 K102 Aw102 => ?_
    have Aw102 : Ary Z h102 a94 .char [.int c0, .int c1, .int c2, .int c3, .int 0, .int 0, .int 0] := Aw102
    show C.W h102 [a94, a92] 2 11 (mkF K.m 369 #[.val (.long u), .second, .val (.int n)] [.ref a94, .ref a92, .ref a92])
    refine C.dup rfl d15_369 ?_
    refine C.iconst (v := (4 : Int32)) d15_370 (by first | rfl | decide) ?_
    refine C.lloadN d15_371 rfl ?_
    refine C.ldc2Long (v := (100 : Int64)) (B.1 _ (List.mem_of_getElem? (i := 4) rfl)) d15_372 ?_
    refine C.callS [.long u, .long (100 : Int64)] [.int (4 : Int32), .ref a94, .ref a94, .ref a92, .ref a92] 5 (B.1 _ (List.mem_of_getElem? (i := 23) rfl)) (B.1 _ (List.mem_of_getElem? (i := 24) rfl)) (B.1 _ (List.mem_of_getElem? (i := 17) rfl)) (B.1 _ (List.mem_of_getElem? (i := 25) rfl)) (by decide) pd__28_JJ_29_C rfl id (c_ch B (u := u) (p := (100 : Int64)) h0 (by decide)) d15_375 rfl rfl rfl (by decide) (by decide) (by decide) (by decide) all0 fun v103 h103 z103 K103 q103 => ?_
    obtain ⟨c4, rfl, g4, D4, rfl⟩ := q103
    show C.W h102 [a94, a92] 2 11 (mkF K.m 378 #[.val (.long u), .second, .val (.int n)] [.int c4, .int (4 : Int32), .ref a94, .ref a94, .ref a92, .ref a92])
    refine C.castore 4 Aw102 (by first | rfl | decide) (Nat.le_of_ble_eq_true rfl) (by omega) (by omega) d15_378 (List.mem_of_getElem? (i := 0) rfl) fun h104 z104 K104 Aw104 => ?_
    have Aw104 : Ary Z h104 a94 .char [.int c0, .int c1, .int c2, .int c3, .int c4, .int 0, .int 0] := Aw104
    show C.W h104 [a94, a92] 2 11 (mkF K.m 379 #[.val (.long u), .second, .val (.int n)] [.ref a94, .ref a92, .ref a92])
    refine C.dup rfl d15_379 ?_
    refine C.iconst (v := (5 : Int32)) d15_380 (by first | rfl | decide) ?_
    refine C.lloadN d15_381 rfl ?_
    refine C.ldc2Long (v := (10 : Int64)) (B.1 _ (List.mem_of_getElem? (i := 3) rfl)) d15_382 ?_
    refine C.callS [.long u, .long (10 : Int64)] [.int (5 : Int32), .ref a94, .ref a94, .ref a92, .ref a92] 5 (B.1 _ (List.mem_of_getElem? (i := 23) rfl)) (B.1 _ (List.mem_of_getElem? (i := 24) rfl)) (B.1 _ (List.mem_of_getElem? (i := 17) rfl)) (B.1 _ (List.mem_of_getElem? (i := 25) rfl)) (by decide) pd__28_JJ_29_C rfl id (c_ch B (u := u) (p := (10 : Int64)) h0 (by decide)) d15_385 rfl rfl rfl (by decide) (by decide) (by decide) (by decide) all0 fun v105 h105 z105 K105 q105 => ?_
    obtain ⟨c5, rfl, g5, D5, rfl⟩ := q105
    show C.W h104 [a94, a92] 2 11 (mkF K.m 388 #[.val (.long u), .second, .val (.int n)] [.int c5, .int (5 : Int32), .ref a94, .ref a94, .ref a92, .ref a92])
    refine C.castore 5 Aw104 (by first | rfl | decide) (Nat.le_of_ble_eq_true rfl) (by omega) (by omega) d15_388 (List.mem_of_getElem? (i := 0) rfl) fun h106 z106 K106 Aw106 => ?_
    have Aw106 : Ary Z h106 a94 .char [.int c0, .int c1, .int c2, .int c3, .int c4, .int c5, .int 0] := Aw106
    show C.W h106 [a94, a92] 2 11 (mkF K.m 389 #[.val (.long u), .second, .val (.int n)] [.ref a94, .ref a92, .ref a92])
    refine C.dup rfl d15_389 ?_
    refine C.bipush (v := (6 : Int32)) d15_390 (by first | rfl | decide) ?_
    refine C.lloadN d15_392 rfl ?_
    refine C.lconst (v := (1 : Int64)) d15_393 (by first | rfl | decide) ?_
    refine C.callS [.long u, .long (1 : Int64)] [.int (6 : Int32), .ref a94, .ref a94, .ref a92, .ref a92] 5 (B.1 _ (List.mem_of_getElem? (i := 23) rfl)) (B.1 _ (List.mem_of_getElem? (i := 24) rfl)) (B.1 _ (List.mem_of_getElem? (i := 17) rfl)) (B.1 _ (List.mem_of_getElem? (i := 25) rfl)) (by decide) pd__28_JJ_29_C rfl id (c_ch B (u := u) (p := (1 : Int64)) h0 (by decide)) d15_394 rfl rfl rfl (by decide) (by decide) (by decide) (by decide) all0 fun v107 h107 z107 K107 q107 => ?_
    obtain ⟨c6, rfl, g6, D6, rfl⟩ := q107
    show C.W h106 [a94, a92] 2 11 (mkF K.m 397 #[.val (.long u), .second, .val (.int n)] [.int c6, .int (6 : Int32), .ref a94, .ref a94, .ref a92, .ref a92])
    refine C.castore 6 Aw106 (by first | rfl | decide) (Nat.le_of_ble_eq_true rfl) (by omega) (by omega) d15_397 (List.mem_of_getElem? (i := 0) rfl) fun h108 z108 K108 Aw108 => ?_
    have Aw108 : Ary Z h108 a94 .char [.int c0, .int c1, .int c2, .int c3, .int c4, .int c5, .int c6] := Aw108
    show C.W h108 [a94, a92] 2 11 (mkF K.m 398 #[.val (.long u), .second, .val (.int n)] [.ref a94, .ref a92, .ref a92])
    have hdg : ∀ c ∈ ([c0, c1, c2, c3, c4, c5, c6] : List Int32), 48 ≤ c.toInt ∧ c.toInt ≤ 57 := by
      intro c hc
      simp only [List.mem_cons, List.not_mem_nil, or_false] at hc
      rcases hc with rfl | rfl | rfl | rfl | rfl | rfl | rfl <;> omega
    have En91_109 := ((((((((En91.keep K93).keep K96).keep K98).keep K100).keep K102).keep K104).keep K106).keep K108)
    have Fv_110 := ((((((((Fv.keep K93 nin0).keep K96 (ninS (neA (by omega)) nin0)).keep K98 (ninS (neA (by omega)) nin0)).keep K100 (ninS (neA (by omega)) nin0)).keep K102 (ninS (neA (by omega)) nin0)).keep K104 (ninS (neA (by omega)) nin0)).keep K106 (ninS (neA (by omega)) nin0)).keep K108 (ninS (neA (by omega)) nin0))
    have Fc_111 := ((((((((Fc.keep K93 nin0).keep K96 (ninS (neA (by omega)) nin0)).keep K98 (ninS (neA (by omega)) nin0)).keep K100 (ninS (neA (by omega)) nin0)).keep K102 (ninS (neA (by omega)) nin0)).keep K104 (ninS (neA (by omega)) nin0)).keep K106 (ninS (neA (by omega)) nin0)).keep K108 (ninS (neA (by omega)) nin0))
    refine C.callN a92 [.ref a94] [.ref a92] 1 (B.1 _ (List.mem_of_getElem? (i := 26) rfl)) (B.1 _ (List.mem_of_getElem? (i := 27) rfl)) (B.1 _ (List.mem_of_getElem? (i := 28) rfl)) rfl (by decide) pd__28__5b_C_29_V rfl id (c_init1 B (cs := [c0, c1, c2, c3, c4, c5, c6]) En91_109 Fv_110 Fc_111 Aw108 (Nat.le_of_ble_eq_true rfl) (fun c hc => by have := hdg c hc; omega) (Nat.le_of_ble_eq_true rfl)) d15_398 rfl rfl rfl (by decide) (by decide) (by decide) (by decide) (allS (List.mem_of_getElem? (i := 1) rfl) all0) fun v112 h112 z112 K112 q112 => ?_
    obtain ⟨rfl, S112⟩ := q112
    show C.W h112 [a94, a92] 3 22 (mkF K.m 401 #[.val (.long u), .second, .val (.int n)] [.ref a92])
    exact C.areturn rfl rfl rfl d15_401 (by decide) (by decide) ⟨a92, [c0, c1, c2, c3, c4, c5, c6], rfl, S112, by rw [cn]; rfl, hdg, by rw [cn, show ((10 : Int) ^ (7 : Int).toNat) = 10000000 by decide]; exact dig7 (D0.lit (by decide)) (D1.lit (by decide)) (D2.lit (by decide)) (D3.lit (by decide)) (D4.lit (by decide)) (D5.lit (by decide)) (D6.lit (by decide))⟩
  · skip
    refine C.tswIn 402 d15_1 (by omega) (by rw [cn]; rfl) (by decide) (by decide) ?_
    show C.W h [] 0 0 (mkF K.m 402 #[.val (.long u), .second, .val (.int n)] [])
    refine C.new (B.1 _ (List.mem_of_getElem? (i := 19) rfl)) (B.1 _ (List.mem_of_getElem? (i := 20) rfl)) (B.1 _ (List.mem_of_getElem? (i := 21) rfl)) d15_402 (by decide) (by decide) fun h113 a114 g113 z113 o113 K113 En113 Dn113 => ?_
    show C.W h113 [a114] 1 4 (mkF K.m 405 #[.val (.long u), .second, .val (.int n)] [.ref a114])
    have Fv : Fld Z h113 a114 "java/lang/String" "value" "[B" (.null) := Dn113 (Or.inr (B.1 _ (List.mem_of_getElem? (i := 51) rfl))) (ty := (.array .byte)) (by decide)
    have Fc : Fld Z h113 a114 "java/lang/String" "coder" "B" (.int 0) := Dn113 (Or.inr (B.1 _ (List.mem_of_getElem? (i := 49) rfl))) (ty := .byte) (by decide)
    refine C.dup rfl d15_405 ?_
    refine C.bipush (v := (8 : Int32)) d15_406 (by first | rfl | decide) ?_
    refine C.newarr 8 8 (B.1 _ (List.mem_of_getElem? (i := 22) rfl)) d15_408 (by first | rfl | decide) (by decide) (by decide) (by decide) (by decide) fun h115 a116 g115 z115 o115 K115 An115 => ?_
    have An115 : Ary Z h115 a116 .char [.int 0, .int 0, .int 0, .int 0, .int 0, .int 0, .int 0, .int 0] := An115
    show C.W h115 [a116, a114] 2 12 (mkF K.m 410 #[.val (.long u), .second, .val (.int n)] [.ref a116, .ref a114, .ref a114])
    refine C.dup rfl d15_410 ?_
    refine C.iconst (v := (0 : Int32)) d15_411 (by first | rfl | decide) ?_
    refine C.lloadN d15_412 rfl ?_
    refine C.ldc2Long (v := (10000000 : Int64)) (B.1 _ (List.mem_of_getElem? (i := 9) rfl)) d15_413 ?_
    refine C.callS [.long u, .long (10000000 : Int64)] [.int (0 : Int32), .ref a116, .ref a116, .ref a114, .ref a114] 5 (B.1 _ (List.mem_of_getElem? (i := 23) rfl)) (B.1 _ (List.mem_of_getElem? (i := 24) rfl)) (B.1 _ (List.mem_of_getElem? (i := 17) rfl)) (B.1 _ (List.mem_of_getElem? (i := 25) rfl)) (by decide) pd__28_JJ_29_C rfl id (c_ch B (u := u) (p := (10000000 : Int64)) h0 (by decide)) d15_416 rfl rfl rfl (by decide) (by decide) (by decide) (by decide) all0 fun v117 h117 z117 K117 q117 => ?_
    obtain ⟨c0, rfl, g0, D0, rfl⟩ := q117
    show C.W h115 [a116, a114] 2 12 (mkF K.m 419 #[.val (.long u), .second, .val (.int n)] [.int c0, .int (0 : Int32), .ref a116, .ref a116, .ref a114, .ref a114])
    refine C.castore 0 An115 (by first | rfl | decide) (Nat.le_of_ble_eq_true rfl) (by omega) (by omega) d15_419 (List.mem_of_getElem? (i := 0) rfl) fun h118 z118 K118 Aw118 => ?_
    have Aw118 : Ary Z h118 a116 .char [.int c0, .int 0, .int 0, .int 0, .int 0, .int 0, .int 0, .int 0] := Aw118
    show C.W h118 [a116, a114] 2 12 (mkF K.m 420 #[.val (.long u), .second, .val (.int n)] [.ref a116, .ref a114, .ref a114])
    refine C.dup rfl d15_420 ?_
    refine C.iconst (v := (1 : Int32)) d15_421 (by first | rfl | decide) ?_
    refine C.lloadN d15_422 rfl ?_
    refine C.ldc2Long (v := (1000000 : Int64)) (B.1 _ (List.mem_of_getElem? (i := 8) rfl)) d15_423 ?_
    refine C.callS [.long u, .long (1000000 : Int64)] [.int (1 : Int32), .ref a116, .ref a116, .ref a114, .ref a114] 5 (B.1 _ (List.mem_of_getElem? (i := 23) rfl)) (B.1 _ (List.mem_of_getElem? (i := 24) rfl)) (B.1 _ (List.mem_of_getElem? (i := 17) rfl)) (B.1 _ (List.mem_of_getElem? (i := 25) rfl)) (by decide) pd__28_JJ_29_C rfl id (c_ch B (u := u) (p := (1000000 : Int64)) h0 (by decide)) d15_426 rfl rfl rfl (by decide) (by decide) (by decide) (by decide) all0 fun v119 h119 z119 K119 q119 => ?_
    obtain ⟨c1, rfl, g1, D1, rfl⟩ := q119
    show C.W h118 [a116, a114] 2 12 (mkF K.m 429 #[.val (.long u), .second, .val (.int n)] [.int c1, .int (1 : Int32), .ref a116, .ref a116, .ref a114, .ref a114])
    refine C.castore 1 Aw118 (by first | rfl | decide) (Nat.le_of_ble_eq_true rfl) (by omega) (by omega) d15_429 (List.mem_of_getElem? (i := 0) rfl) fun h120 z120 K120 Aw120 => ?_
    have Aw120 : Ary Z h120 a116 .char [.int c0, .int c1, .int 0, .int 0, .int 0, .int 0, .int 0, .int 0] := Aw120
    show C.W h120 [a116, a114] 2 12 (mkF K.m 430 #[.val (.long u), .second, .val (.int n)] [.ref a116, .ref a114, .ref a114])
    refine C.dup rfl d15_430 ?_
    refine C.iconst (v := (2 : Int32)) d15_431 (by first | rfl | decide) ?_
    refine C.lloadN d15_432 rfl ?_
    refine C.ldc2Long (v := (100000 : Int64)) (B.1 _ (List.mem_of_getElem? (i := 7) rfl)) d15_433 ?_
    refine C.callS [.long u, .long (100000 : Int64)] [.int (2 : Int32), .ref a116, .ref a116, .ref a114, .ref a114] 5 (B.1 _ (List.mem_of_getElem? (i := 23) rfl)) (B.1 _ (List.mem_of_getElem? (i := 24) rfl)) (B.1 _ (List.mem_of_getElem? (i := 17) rfl)) (B.1 _ (List.mem_of_getElem? (i := 25) rfl)) (by decide) pd__28_JJ_29_C rfl id (c_ch B (u := u) (p := (100000 : Int64)) h0 (by decide)) d15_436 rfl rfl rfl (by decide) (by decide) (by decide) (by decide) all0 fun v121 h121 z121 K121 q121 => ?_
    obtain ⟨c2, rfl, g2, D2, rfl⟩ := q121
    show C.W h120 [a116, a114] 2 12 (mkF K.m 439 #[.val (.long u), .second, .val (.int n)] [.int c2, .int (2 : Int32), .ref a116, .ref a116, .ref a114, .ref a114])
    refine C.castore 2 Aw120 (by first | rfl | decide) (Nat.le_of_ble_eq_true rfl) (by omega) (by omega) d15_439 (List.mem_of_getElem? (i := 0) rfl) fun h122 z122 K122 Aw122 => ?_
    have Aw122 : Ary Z h122 a116 .char [.int c0, .int c1, .int c2, .int 0, .int 0, .int 0, .int 0, .int 0] := Aw122
    show C.W h122 [a116, a114] 2 12 (mkF K.m 440 #[.val (.long u), .second, .val (.int n)] [.ref a116, .ref a114, .ref a114])
    refine C.dup rfl d15_440 ?_
    refine C.iconst (v := (3 : Int32)) d15_441 (by first | rfl | decide) ?_
    refine C.lloadN d15_442 rfl ?_
    refine C.ldc2Long (v := (10000 : Int64)) (B.1 _ (List.mem_of_getElem? (i := 6) rfl)) d15_443 ?_
    refine C.callS [.long u, .long (10000 : Int64)] [.int (3 : Int32), .ref a116, .ref a116, .ref a114, .ref a114] 5 (B.1 _ (List.mem_of_getElem? (i := 23) rfl)) (B.1 _ (List.mem_of_getElem? (i := 24) rfl)) (B.1 _ (List.mem_of_getElem? (i := 17) rfl)) (B.1 _ (List.mem_of_getElem? (i := 25) rfl)) (by decide) pd__28_JJ_29_C rfl id (c_ch B (u := u) (p := (10000 : Int64)) h0 (by decide)) d15_446 rfl rfl rfl (by decide) (by decide) (by decide) (by decide) all0 fun v123 h123 z123 K123 q123 => ?_
    obtain ⟨c3, rfl, g3, D3, rfl⟩ := q123
    show C.W h122 [a116, a114] 2 12 (mkF K.m 449 #[.val (.long u), .second, .val (.int n)] [.int c3, .int (3 : Int32), .ref a116, .ref a116, .ref a114, .ref a114])
    refine C.castore 3 Aw122 (by first | rfl | decide) (Nat.le_of_ble_eq_true rfl) (by omega) (by omega) d15_449 (List.mem_of_getElem? (i := 0) rfl) fun h124 z124 K124 Aw124 => ?_
    have Aw124 : Ary Z h124 a116 .char [.int c0, .int c1, .int c2, .int c3, .int 0, .int 0, .int 0, .int 0] := Aw124
    show C.W h124 [a116, a114] 2 12 (mkF K.m 450 #[.val (.long u), .second, .val (.int n)] [.ref a116, .ref a114, .ref a114])
    refine C.dup rfl d15_450 ?_
    refine C.iconst (v := (4 : Int32)) d15_451 (by first | rfl | decide) ?_
    refine C.lloadN d15_452 rfl ?_
    refine C.ldc2Long (v := (1000 : Int64)) (B.1 _ (List.mem_of_getElem? (i := 5) rfl)) d15_453 ?_
    refine C.callS [.long u, .long (1000 : Int64)] [.int (4 : Int32), .ref a116, .ref a116, .ref a114, .ref a114] 5 (B.1 _ (List.mem_of_getElem? (i := 23) rfl)) (B.1 _ (List.mem_of_getElem? (i := 24) rfl)) (B.1 _ (List.mem_of_getElem? (i := 17) rfl)) (B.1 _ (List.mem_of_getElem? (i := 25) rfl)) (by decide) pd__28_JJ_29_C rfl id (c_ch B (u := u) (p := (1000 : Int64)) h0 (by decide)) d15_456 rfl rfl rfl (by decide) (by decide) (by decide) (by decide) all0 fun v125 h125 z125 K125 q125 => ?_
    obtain ⟨c4, rfl, g4, D4, rfl⟩ := q125
    show C.W h124 [a116, a114] 2 12 (mkF K.m 459 #[.val (.long u), .second, .val (.int n)] [.int c4, .int (4 : Int32), .ref a116, .ref a116, .ref a114, .ref a114])
    refine C.castore 4 Aw124 (by first | rfl | decide) (Nat.le_of_ble_eq_true rfl) (by omega) (by omega) d15_459 (List.mem_of_getElem? (i := 0) rfl) fun h126 z126 K126 Aw126 => ?_
    have Aw126 : Ary Z h126 a116 .char [.int c0, .int c1, .int c2, .int c3, .int c4, .int 0, .int 0, .int 0] := Aw126
    show C.W h126 [a116, a114] 2 12 (mkF K.m 460 #[.val (.long u), .second, .val (.int n)] [.ref a116, .ref a114, .ref a114])
    refine C.dup rfl d15_460 ?_
    refine C.iconst (v := (5 : Int32)) d15_461 (by first | rfl | decide) ?_
    refine C.lloadN d15_462 rfl ?_
    refine C.ldc2Long (v := (100 : Int64)) (B.1 _ (List.mem_of_getElem? (i := 4) rfl)) d15_463 ?_
    refine C.callS [.long u, .long (100 : Int64)] [.int (5 : Int32), .ref a116, .ref a116, .ref a114, .ref a114] 5 (B.1 _ (List.mem_of_getElem? (i := 23) rfl)) (B.1 _ (List.mem_of_getElem? (i := 24) rfl)) (B.1 _ (List.mem_of_getElem? (i := 17) rfl)) (B.1 _ (List.mem_of_getElem? (i := 25) rfl)) (by decide) pd__28_JJ_29_C rfl id (c_ch B (u := u) (p := (100 : Int64)) h0 (by decide)) d15_466 rfl rfl rfl (by decide) (by decide) (by decide) (by decide) all0 fun v127 h127 z127 K127 q127 => ?_
    obtain ⟨c5, rfl, g5, D5, rfl⟩ := q127
    show C.W h126 [a116, a114] 2 12 (mkF K.m 469 #[.val (.long u), .second, .val (.int n)] [.int c5, .int (5 : Int32), .ref a116, .ref a116, .ref a114, .ref a114])
    refine C.castore 5 Aw126 (by first | rfl | decide) (Nat.le_of_ble_eq_true rfl) (by omega) (by omega) d15_469 (List.mem_of_getElem? (i := 0) rfl) fun h128 z128 K128 Aw128 => ?_
    have Aw128 : Ary Z h128 a116 .char [.int c0, .int c1, .int c2, .int c3, .int c4, .int c5, .int 0, .int 0] := Aw128
    show C.W h128 [a116, a114] 2 12 (mkF K.m 470 #[.val (.long u), .second, .val (.int n)] [.ref a116, .ref a114, .ref a114])
    refine C.dup rfl d15_470 ?_
    refine C.bipush (v := (6 : Int32)) d15_471 (by first | rfl | decide) ?_
    refine C.lloadN d15_473 rfl ?_
    refine C.ldc2Long (v := (10 : Int64)) (B.1 _ (List.mem_of_getElem? (i := 3) rfl)) d15_474 ?_
    refine C.callS [.long u, .long (10 : Int64)] [.int (6 : Int32), .ref a116, .ref a116, .ref a114, .ref a114] 5 (B.1 _ (List.mem_of_getElem? (i := 23) rfl)) (B.1 _ (List.mem_of_getElem? (i := 24) rfl)) (B.1 _ (List.mem_of_getElem? (i := 17) rfl)) (B.1 _ (List.mem_of_getElem? (i := 25) rfl)) (by decide) pd__28_JJ_29_C rfl id (c_ch B (u := u) (p := (10 : Int64)) h0 (by decide)) d15_477 rfl rfl rfl (by decide) (by decide) (by decide) (by decide) all0 fun v129 h129 z129 K129 q129 => ?_
    obtain ⟨c6, rfl, g6, D6, rfl⟩ := q129
    show C.W h128 [a116, a114] 2 12 (mkF K.m 480 #[.val (.long u), .second, .val (.int n)] [.int c6, .int (6 : Int32), .ref a116, .ref a116, .ref a114, .ref a114])
    refine C.castore 6 Aw128 (by first | rfl | decide) (Nat.le_of_ble_eq_true rfl) (by omega) (by omega) d15_480 (List.mem_of_getElem? (i := 0) rfl) fun h130 z130 K130 Aw130 => ?_
    have Aw130 : Ary Z h130 a116 .char [.int c0, .int c1, .int c2, .int c3, .int c4, .int c5, .int c6, .int 0] := Aw130
    show C.W h130 [a116, a114] 2 12 (mkF K.m 481 #[.val (.long u), .second, .val (.int n)] [.ref a116, .ref a114, .ref a114])
    refine C.dup rfl d15_481 ?_
    refine C.bipush (v := (7 : Int32)) d15_482 (by first | rfl | decide) ?_
    refine C.lloadN d15_484 rfl ?_
    refine C.lconst (v := (1 : Int64)) d15_485 (by first | rfl | decide) ?_
    refine C.callS [.long u, .long (1 : Int64)] [.int (7 : Int32), .ref a116, .ref a116, .ref a114, .ref a114] 5 (B.1 _ (List.mem_of_getElem? (i := 23) rfl)) (B.1 _ (List.mem_of_getElem? (i := 24) rfl)) (B.1 _ (List.mem_of_getElem? (i := 17) rfl)) (B.1 _ (List.mem_of_getElem? (i := 25) rfl)) (by decide) pd__28_JJ_29_C rfl id (c_ch B (u := u) (p := (1 : Int64)) h0 (by decide)) d15_486 rfl rfl rfl (by decide) (by decide) (by decide) (by decide) all0 fun v131 h131 z131 K131 q131 => ?_
    obtain ⟨c7, rfl, g7, D7, rfl⟩ := q131
    show C.W h130 [a116, a114] 2 12 (mkF K.m 489 #[.val (.long u), .second, .val (.int n)] [.int c7, .int (7 : Int32), .ref a116, .ref a116, .ref a114, .ref a114])
    refine C.castore 7 Aw130 (by first | rfl | decide) (Nat.le_of_ble_eq_true rfl) (by omega) (by omega) d15_489 (List.mem_of_getElem? (i := 0) rfl) fun h132 z132 K132 Aw132 => ?_
    have Aw132 : Ary Z h132 a116 .char [.int c0, .int c1, .int c2, .int c3, .int c4, .int c5, .int c6, .int c7] := Aw132
    show C.W h132 [a116, a114] 2 12 (mkF K.m 490 #[.val (.long u), .second, .val (.int n)] [.ref a116, .ref a114, .ref a114])
    have hdg : ∀ c ∈ ([c0, c1, c2, c3, c4, c5, c6, c7] : List Int32), 48 ≤ c.toInt ∧ c.toInt ≤ 57 := by
      intro c hc
      simp only [List.mem_cons, List.not_mem_nil, or_false] at hc
      rcases hc with rfl | rfl | rfl | rfl | rfl | rfl | rfl | rfl <;> omega
    have En113_133 := (((((((((En113.keep K115).keep K118).keep K120).keep K122).keep K124).keep K126).keep K128).keep K130).keep K132)
    have Fv_134 := (((((((((Fv.keep K115 nin0).keep K118 (ninS (neA (by omega)) nin0)).keep K120 (ninS (neA (by omega)) nin0)).keep K122 (ninS (neA (by omega)) nin0)).keep K124 (ninS (neA (by omega)) nin0)).keep K126 (ninS (neA (by omega)) nin0)).keep K128 (ninS (neA (by omega)) nin0)).keep K130 (ninS (neA (by omega)) nin0)).keep K132 (ninS (neA (by omega)) nin0))
    have Fc_135 := (((((((((Fc.keep K115 nin0).keep K118 (ninS (neA (by omega)) nin0)).keep K120 (ninS (neA (by omega)) nin0)).keep K122 (ninS (neA (by omega)) nin0)).keep K124 (ninS (neA (by omega)) nin0)).keep K126 (ninS (neA (by omega)) nin0)).keep K128 (ninS (neA (by omega)) nin0)).keep K130 (ninS (neA (by omega)) nin0)).keep K132 (ninS (neA (by omega)) nin0))
    refine C.callN a114 [.ref a116] [.ref a114] 1 (B.1 _ (List.mem_of_getElem? (i := 26) rfl)) (B.1 _ (List.mem_of_getElem? (i := 27) rfl)) (B.1 _ (List.mem_of_getElem? (i := 28) rfl)) rfl (by decide) pd__28__5b_C_29_V rfl id (c_init1 B (cs := [c0, c1, c2, c3, c4, c5, c6, c7]) En113_133 Fv_134 Fc_135 Aw132 (Nat.le_of_ble_eq_true rfl) (fun c hc => by have := hdg c hc; omega) (Nat.le_of_ble_eq_true rfl)) d15_490 rfl rfl rfl (by decide) (by decide) (by decide) (by decide) (allS (List.mem_of_getElem? (i := 1) rfl) all0) fun v136 h136 z136 K136 q136 => ?_
    obtain ⟨rfl, S136⟩ := q136
    show C.W h136 [a116, a114] 3 23 (mkF K.m 493 #[.val (.long u), .second, .val (.int n)] [.ref a114])
    exact C.areturn rfl rfl rfl d15_493 (by decide) (by decide) ⟨a114, [c0, c1, c2, c3, c4, c5, c6, c7], rfl, S136, by rw [cn]; rfl, hdg, by rw [cn, show ((10 : Int) ^ (8 : Int).toNat) = 100000000 by decide]; exact dig8 (D0.lit (by decide)) (D1.lit (by decide)) (D2.lit (by decide)) (D3.lit (by decide)) (D4.lit (by decide)) (D5.lit (by decide)) (D6.lit (by decide)) (D7.lit (by decide))⟩
  · skip
    refine C.tswIn 494 d15_1 (by omega) (by rw [cn]; rfl) (by decide) (by decide) ?_
    show C.W h [] 0 0 (mkF K.m 494 #[.val (.long u), .second, .val (.int n)] [])
    refine C.new (B.1 _ (List.mem_of_getElem? (i := 19) rfl)) (B.1 _ (List.mem_of_getElem? (i := 20) rfl)) (B.1 _ (List.mem_of_getElem? (i := 21) rfl)) d15_494 (by decide) (by decide) fun h137 a138 g137 z137 o137 K137 En137 Dn137 => ?_
    show C.W h137 [a138] 1 4 (mkF K.m 497 #[.val (.long u), .second, .val (.int n)] [.ref a138])
    have Fv : Fld Z h137 a138 "java/lang/String" "value" "[B" (.null) := Dn137 (Or.inr (B.1 _ (List.mem_of_getElem? (i := 51) rfl))) (ty := (.array .byte)) (by decide)
    have Fc : Fld Z h137 a138 "java/lang/String" "coder" "B" (.int 0) := Dn137 (Or.inr (B.1 _ (List.mem_of_getElem? (i := 49) rfl))) (ty := .byte) (by decide)
    refine C.dup rfl d15_497 ?_
    refine C.bipush (v := (9 : Int32)) d15_498 (by first | rfl | decide) ?_
    refine C.newarr 9 9 (B.1 _ (List.mem_of_getElem? (i := 22) rfl)) d15_500 (by first | rfl | decide) (by decide) (by decide) (by decide) (by decide) fun h139 a140 g139 z139 o139 K139 An139 => ?_
    have An139 : Ary Z h139 a140 .char [.int 0, .int 0, .int 0, .int 0, .int 0, .int 0, .int 0, .int 0, .int 0] := An139
    show C.W h139 [a140, a138] 2 13 (mkF K.m 502 #[.val (.long u), .second, .val (.int n)] [.ref a140, .ref a138, .ref a138])
    refine C.dup rfl d15_502 ?_
    refine C.iconst (v := (0 : Int32)) d15_503 (by first | rfl | decide) ?_
    refine C.lloadN d15_504 rfl ?_
    refine C.ldc2Long (v := (100000000 : Int64)) (B.1 _ (List.mem_of_getElem? (i := 10) rfl)) d15_505 ?_
    refine C.callS [.long u, .long (100000000 : Int64)] [.int (0 : Int32), .ref a140, .ref a140, .ref a138, .ref a138] 5 (B.1 _ (List.mem_of_getElem? (i := 23) rfl)) (B.1 _ (List.mem_of_getElem? (i := 24) rfl)) (B.1 _ (List.mem_of_getElem? (i := 17) rfl)) (B.1 _ (List.mem_of_getElem? (i := 25) rfl)) (by decide) pd__28_JJ_29_C rfl id (c_ch B (u := u) (p := (100000000 : Int64)) h0 (by decide)) d15_508 rfl rfl rfl (by decide) (by decide) (by decide) (by decide) all0 fun v141 h141 z141 K141 q141 => ?_
    obtain ⟨c0, rfl, g0, D0, rfl⟩ := q141
    show C.W h139 [a140, a138] 2 13 (mkF K.m 511 #[.val (.long u), .second, .val (.int n)] [.int c0, .int (0 : Int32), .ref a140, .ref a140, .ref a138, .ref a138])
    refine C.castore 0 An139 (by first | rfl | decide) (Nat.le_of_ble_eq_true rfl) (by omega) (by omega) d15_511 (List.mem_of_getElem? (i := 0) rfl) fun h142 z142 K142 Aw142 => ?_
    have Aw142 : Ary Z h142 a140 .char [.int c0, .int 0, .int 0, .int 0, .int 0, .int 0, .int 0, .int 0, .int 0] := Aw142
    show C.W h142 [a140, a138] 2 13 (mkF K.m 512 #[.val (.long u), .second, .val (.int n)] [.ref a140, .ref a138, .ref a138])
    refine C.dup rfl d15_512 ?_
    refine C.iconst (v := (1 : Int32)) d15_513 (by first | rfl | decide) ?_
    refine C.lloadN d15_514 rfl ?_
    refine C.ldc2Long (v := (10000000 : Int64)) (B.1 _ (List.mem_of_getElem? (i := 9) rfl)) d15_515 ?_
    refine C.callS [.long u, .long (10000000 : Int64)] [.int (1 : Int32), .ref a140, .ref a140, .ref a138, .ref a138] 5 (B.1 _ (List.mem_of_getElem? (i := 23) rfl)) (B.1 _ (List.mem_of_getElem? (i := 24) rfl)) (B.1 _ (List.mem_of_getElem? (i := 17) rfl)) (B.1 _ (List.mem_of_getElem? (i := 25) rfl)) (by decide) pd__28_JJ_29_C rfl id (c_ch B (u := u) (p := (10000000 : Int64)) h0 (by decide)) d15_518 rfl rfl rfl (by decide) (by decide) (by decide) (by decide) all0 fun v143 h143 z143 K143 q143 => ?_
    obtain ⟨c1, rfl, g1, D1, rfl⟩ := q143
    show C.W h142 [a140, a138] 2 13 (mkF K.m 521 #[.val (.long u), .second, .val (.int n)] [.int c1, .int (1 : Int32), .ref a140, .ref a140, .ref a138, .ref a138])
    refine C.castore 1 Aw142 (by first | rfl | decide) (Nat.le_of_ble_eq_true rfl) (by omega) (by omega) d15_521 (List.mem_of_getElem? (i := 0) rfl) fun h144 z144 K144 Aw144 => ?_
    have Aw144 : Ary Z h144 a140 .char [.int c0, .int c1, .int 0, .int 0, .int 0, .int 0, .int 0, .int 0, .int 0] := Aw144
    show C.W h144 [a140, a138] 2 13 (mkF K.m 522 #[.val (.long u), .second, .val (.int n)] [.ref a140, .ref a138, .ref a138])
    refine C.dup rfl d15_522 ?_
    refine C.iconst (v := (2 : Int32)) d15_523 (by first | rfl | decide) ?_
    refine C.lloadN d15_524 rfl ?_
    refine C.ldc2Long (v := (1000000 : Int64)) (B.1 _ (List.mem_of_getElem? (i := 8) rfl)) d15_525 ?_
    refine C.callS [.long u, .long (1000000 : Int64)] [.int (2 : Int32), .ref a140, .ref a140, .ref a138, .ref a138] 5 (B.1 _ (List.mem_of_getElem? (i := 23) rfl)) (B.1 _ (List.mem_of_getElem? (i := 24) rfl)) (B.1 _ (List.mem_of_getElem? (i := 17) rfl)) (B.1 _ (List.mem_of_getElem? (i := 25) rfl)) (by decide) pd__28_JJ_29_C rfl id (c_ch B (u := u) (p := (1000000 : Int64)) h0 (by decide)) d15_528 rfl rfl rfl (by decide) (by decide) (by decide) (by decide) all0 fun v145 h145 z145 K145 q145 => ?_
    obtain ⟨c2, rfl, g2, D2, rfl⟩ := q145
    show C.W h144 [a140, a138] 2 13 (mkF K.m 531 #[.val (.long u), .second, .val (.int n)] [.int c2, .int (2 : Int32), .ref a140, .ref a140, .ref a138, .ref a138])
    refine C.castore 2 Aw144 (by first | rfl | decide) (Nat.le_of_ble_eq_true rfl) (by omega) (by omega) d15_531 (List.mem_of_getElem? (i := 0) rfl) fun h146 z146 K146 Aw146 => ?_
    have Aw146 : Ary Z h146 a140 .char [.int c0, .int c1, .int c2, .int 0, .int 0, .int 0, .int 0, .int 0, .int 0] := Aw146
    show C.W h146 [a140, a138] 2 13 (mkF K.m 532 #[.val (.long u), .second, .val (.int n)] [.ref a140, .ref a138, .ref a138])
    refine C.dup rfl d15_532 ?_
    refine C.iconst (v := (3 : Int32)) d15_533 (by first | rfl | decide) ?_
    refine C.lloadN d15_534 rfl ?_
    refine C.ldc2Long (v := (100000 : Int64)) (B.1 _ (List.mem_of_getElem? (i := 7) rfl)) d15_535 ?_
    refine C.callS [.long u, .long (100000 : Int64)] [.int (3 : Int32), .ref a140, .ref a140, .ref a138, .ref a138] 5 (B.1 _ (List.mem_of_getElem? (i := 23) rfl)) (B.1 _ (List.mem_of_getElem? (i := 24) rfl)) (B.1 _ (List.mem_of_getElem? (i := 17) rfl)) (B.1 _ (List.mem_of_getElem? (i := 25) rfl)) (by decide) pd__28_JJ_29_C rfl id (c_ch B (u := u) (p := (100000 : Int64)) h0 (by decide)) d15_538 rfl rfl rfl (by decide) (by decide) (by decide) (by decide) all0 fun v147 h147 z147 K147 q147 => ?_
    obtain ⟨c3, rfl, g3, D3, rfl⟩ := q147
    show C.W h146 [a140, a138] 2 13 (mkF K.m 541 #[.val (.long u), .second, .val (.int n)] [.int c3, .int (3 : Int32), .ref a140, .ref a140, .ref a138, .ref a138])
    refine C.castore 3 Aw146 (by first | rfl | decide) (Nat.le_of_ble_eq_true rfl) (by omega) (by omega) d15_541 (List.mem_of_getElem? (i := 0) rfl) fun h148 z148 K148 Aw148 => ?_
    have Aw148 : Ary Z h148 a140 .char [.int c0, .int c1, .int c2, .int c3, .int 0, .int 0, .int 0, .int 0, .int 0] := Aw148
    show C.W h148 [a140, a138] 2 13 (mkF K.m 542 #[.val (.long u), .second, .val (.int n)] [.ref a140, .ref a138, .ref a138])
    refine C.dup rfl d15_542 ?_
    refine C.iconst (v := (4 : Int32)) d15_543 (by first | rfl | decide) ?_
    refine C.lloadN d15_544 rfl ?_
    refine C.ldc2Long (v := (10000 : Int64)) (B.1 _ (List.mem_of_getElem? (i := 6) rfl)) d15_545 ?_
    refine C.callS [.long u, .long (10000 : Int64)] [.int (4 : Int32), .ref a140, .ref a140, .ref a138, .ref a138] 5 (B.1 _ (List.mem_of_getElem? (i := 23) rfl)) (B.1 _ (List.mem_of_getElem? (i := 24) rfl)) (B.1 _ (List.mem_of_getElem? (i := 17) rfl)) (B.1 _ (List.mem_of_getElem? (i := 25) rfl)) (by decide) pd__28_JJ_29_C rfl id (c_ch B (u := u) (p := (10000 : Int64)) h0 (by decide)) d15_548 rfl rfl rfl (by decide) (by decide) (by decide) (by decide) all0 fun v149 h149 z149 K149 q149 => ?_
    obtain ⟨c4, rfl, g4, D4, rfl⟩ := q149
    show C.W h148 [a140, a138] 2 13 (mkF K.m 551 #[.val (.long u), .second, .val (.int n)] [.int c4, .int (4 : Int32), .ref a140, .ref a140, .ref a138, .ref a138])
    refine C.castore 4 Aw148 (by first | rfl | decide) (Nat.le_of_ble_eq_true rfl) (by omega) (by omega) d15_551 (List.mem_of_getElem? (i := 0) rfl) fun h150 z150 K150 Aw150 => ?_
    have Aw150 : Ary Z h150 a140 .char [.int c0, .int c1, .int c2, .int c3, .int c4, .int 0, .int 0, .int 0, .int 0] := Aw150
    show C.W h150 [a140, a138] 2 13 (mkF K.m 552 #[.val (.long u), .second, .val (.int n)] [.ref a140, .ref a138, .ref a138])
    refine C.dup rfl d15_552 ?_
    refine C.iconst (v := (5 : Int32)) d15_553 (by first | rfl | decide) ?_
    refine C.lloadN d15_554 rfl ?_
    refine C.ldc2Long (v := (1000 : Int64)) (B.1 _ (List.mem_of_getElem? (i := 5) rfl)) d15_555 ?_
    refine C.callS [.long u, .long (1000 : Int64)] [.int (5 : Int32), .ref a140, .ref a140, .ref a138, .ref a138] 5 (B.1 _ (List.mem_of_getElem? (i := 23) rfl)) (B.1 _ (List.mem_of_getElem? (i := 24) rfl)) (B.1 _ (List.mem_of_getElem? (i := 17) rfl)) (B.1 _ (List.mem_of_getElem? (i := 25) rfl)) (by decide) pd__28_JJ_29_C rfl id (c_ch B (u := u) (p := (1000 : Int64)) h0 (by decide)) d15_558 rfl rfl rfl (by decide) (by decide) (by decide) (by decide) all0 fun v151 h151 z151 K151 q151 => ?_
    obtain ⟨c5, rfl, g5, D5, rfl⟩ := q151
    show C.W h150 [a140, a138] 2 13 (mkF K.m 561 #[.val (.long u), .second, .val (.int n)] [.int c5, .int (5 : Int32), .ref a140, .ref a140, .ref a138, .ref a138])
    refine C.castore 5 Aw150 (by first | rfl | decide) (Nat.le_of_ble_eq_true rfl) (by omega) (by omega) d15_561 (List.mem_of_getElem? (i := 0) rfl) fun h152 z152 K152 Aw152 => ?_
    have Aw152 : Ary Z h152 a140 .char [.int c0, .int c1, .int c2, .int c3, .int c4, .int c5, .int 0, .int 0, .int 0] := Aw152
    show C.W h152 [a140, a138] 2 13 (mkF K.m 562 #[.val (.long u), .second, .val (.int n)] [.ref a140, .ref a138, .ref a138])
    refine C.dup rfl d15_562 ?_
    refine C.bipush (v := (6 : Int32)) d15_563 (by first | rfl | decide) ?_
    refine C.lloadN d15_565 rfl ?_
    refine C.ldc2Long (v := (100 : Int64)) (B.1 _ (List.mem_of_getElem? (i := 4) rfl)) d15_566 ?_
    refine C.callS [.long u, .long (100 : Int64)] [.int (6 : Int32), .ref a140, .ref a140, .ref a138, .ref a138] 5 (B.1 _ (List.mem_of_getElem? (i := 23) rfl)) (B.1 _ (List.mem_of_getElem? (i := 24) rfl)) (B.1 _ (List.mem_of_getElem? (i := 17) rfl)) (B.1 _ (List.mem_of_getElem? (i := 25) rfl)) (by decide) pd__28_JJ_29_C rfl id (c_ch B (u := u) (p := (100 : Int64)) h0 (by decide)) d15_569 rfl rfl rfl (by decide) (by decide) (by decide) (by decide) all0 fun v153 h153 z153 K153 q153 => ?_
    obtain ⟨c6, rfl, g6, D6, rfl⟩ := q153
    show C.W h152 [a140, a138] 2 13 (mkF K.m 572 #[.val (.long u), .second, .val (.int n)] [.int c6, .int (6 : Int32), .ref a140, .ref a140, .ref a138, .ref a138])
    refine C.castore 6 Aw152 (by first | rfl | decide) (Nat.le_of_ble_eq_true rfl) (by omega) (by omega) d15_572 (List.mem_of_getElem? (i := 0) rfl) fun h154 z154 K154 Aw154 => ?_
    have Aw154 : Ary Z h154 a140 .char [.int c0, .int c1, .int c2, .int c3, .int c4, .int c5, .int c6, .int 0, .int 0] := Aw154
    show C.W h154 [a140, a138] 2 13 (mkF K.m 573 #[.val (.long u), .second, .val (.int n)] [.ref a140, .ref a138, .ref a138])
    refine C.dup rfl d15_573 ?_
    refine C.bipush (v := (7 : Int32)) d15_574 (by first | rfl | decide) ?_
    refine C.lloadN d15_576 rfl ?_
    refine C.ldc2Long (v := (10 : Int64)) (B.1 _ (List.mem_of_getElem? (i := 3) rfl)) d15_577 ?_
    refine C.callS [.long u, .long (10 : Int64)] [.int (7 : Int32), .ref a140, .ref a140, .ref a138, .ref a138] 5 (B.1 _ (List.mem_of_getElem? (i := 23) rfl)) (B.1 _ (List.mem_of_getElem? (i := 24) rfl)) (B.1 _ (List.mem_of_getElem? (i := 17) rfl)) (B.1 _ (List.mem_of_getElem? (i := 25) rfl)) (by decide) pd__28_JJ_29_C rfl id (c_ch B (u := u) (p := (10 : Int64)) h0 (by decide)) d15_580 rfl rfl rfl (by decide) (by decide) (by decide) (by decide) all0 fun v155 h155 z155 K155 q155 => ?_
    obtain ⟨c7, rfl, g7, D7, rfl⟩ := q155
    show C.W h154 [a140, a138] 2 13 (mkF K.m 583 #[.val (.long u), .second, .val (.int n)] [.int c7, .int (7 : Int32), .ref a140, .ref a140, .ref a138, .ref a138])
    refine C.castore 7 Aw154 (by first | rfl | decide) (Nat.le_of_ble_eq_true rfl) (by omega) (by omega) d15_583 (List.mem_of_getElem? (i := 0) rfl) fun h156 z156 K156 Aw156 => ?_
    have Aw156 : Ary Z h156 a140 .char [.int c0, .int c1, .int c2, .int c3, .int c4, .int c5, .int c6, .int c7, .int 0] := Aw156
    show C.W h156 [a140, a138] 2 13 (mkF K.m 584 #[.val (.long u), .second, .val (.int n)] [.ref a140, .ref a138, .ref a138])
    refine C.dup rfl d15_584 ?_
    refine C.bipush (v := (8 : Int32)) d15_585 (by first | rfl | decide) ?_
    refine C.lloadN d15_587 rfl ?_
    refine C.lconst (v := (1 : Int64)) d15_588 (by first | rfl | decide) ?_
    refine C.callS [.long u, .long (1 : Int64)] [.int (8 : Int32), .ref a140, .ref a140, .ref a138, .ref a138] 5 (B.1 _ (List.mem_of_getElem? (i := 23) rfl)) (B.1 _ (List.mem_of_getElem? (i := 24) rfl)) (B.1 _ (List.mem_of_getElem? (i := 17) rfl)) (B.1 _ (List.mem_of_getElem? (i := 25) rfl)) (by decide) pd__28_JJ_29_C rfl id (c_ch B (u := u) (p := (1 : Int64)) h0 (by decide)) d15_589 rfl rfl rfl (by decide) (by decide) (by decide) (by decide) all0 fun v157 h157 z157 K157 q157 => ?_
    obtain ⟨c8, rfl, g8, D8, rfl⟩ := q157
    show C.W h156 [a140, a138] 2 13 (mkF K.m 592 #[.val (.long u), .second, .val (.int n)] [.int c8, .int (8 : Int32), .ref a140, .ref a140, .ref a138, .ref a138])
    refine C.castore 8 Aw156 (by first | rfl | decide) (Nat.le_of_ble_eq_true rfl) (by omega) (by omega) d15_592 (List.mem_of_getElem? (i := 0) rfl) fun h158 z158 K158 Aw158 => ?_
    have Aw158 : Ary Z h158 a140 .char [.int c0, .int c1, .int c2, .int c3, .int c4, .int c5, .int c6, .int c7, .int c8] := Aw158
    show C.W h158 [a140, a138] 2 13 (mkF K.m 593 #[.val (.long u), .second, .val (.int n)] [.ref a140, .ref a138, .ref a138])
    have hdg : ∀ c ∈ ([c0, c1, c2, c3, c4, c5, c6, c7, c8] : List Int32), 48 ≤ c.toInt ∧ c.toInt ≤ 57 := by
      intro c hc
      simp only [List.mem_cons, List.not_mem_nil, or_false] at hc
      rcases hc with rfl | rfl | rfl | rfl | rfl | rfl | rfl | rfl | rfl <;> omega
    have En137_159 := ((((((((((En137.keep K139).keep K142).keep K144).keep K146).keep K148).keep K150).keep K152).keep K154).keep K156).keep K158)
    have Fv_160 := ((((((((((Fv.keep K139 nin0).keep K142 (ninS (neA (by omega)) nin0)).keep K144 (ninS (neA (by omega)) nin0)).keep K146 (ninS (neA (by omega)) nin0)).keep K148 (ninS (neA (by omega)) nin0)).keep K150 (ninS (neA (by omega)) nin0)).keep K152 (ninS (neA (by omega)) nin0)).keep K154 (ninS (neA (by omega)) nin0)).keep K156 (ninS (neA (by omega)) nin0)).keep K158 (ninS (neA (by omega)) nin0))
    have Fc_161 := ((((((((((Fc.keep K139 nin0).keep K142 (ninS (neA (by omega)) nin0)).keep K144 (ninS (neA (by omega)) nin0)).keep K146 (ninS (neA (by omega)) nin0)).keep K148 (ninS (neA (by omega)) nin0)).keep K150 (ninS (neA (by omega)) nin0)).keep K152 (ninS (neA (by omega)) nin0)).keep K154 (ninS (neA (by omega)) nin0)).keep K156 (ninS (neA (by omega)) nin0)).keep K158 (ninS (neA (by omega)) nin0))
    refine C.callN a138 [.ref a140] [.ref a138] 1 (B.1 _ (List.mem_of_getElem? (i := 26) rfl)) (B.1 _ (List.mem_of_getElem? (i := 27) rfl)) (B.1 _ (List.mem_of_getElem? (i := 28) rfl)) rfl (by decide) pd__28__5b_C_29_V rfl id (c_init1 B (cs := [c0, c1, c2, c3, c4, c5, c6, c7, c8]) En137_159 Fv_160 Fc_161 Aw158 (Nat.le_of_ble_eq_true rfl) (fun c hc => by have := hdg c hc; omega) (Nat.le_of_ble_eq_true rfl)) d15_593 rfl rfl rfl (by decide) (by decide) (by decide) (by decide) (allS (List.mem_of_getElem? (i := 1) rfl) all0) fun v162 h162 z162 K162 q162 => ?_
    obtain ⟨rfl, S162⟩ := q162
    show C.W h162 [a140, a138] 3 24 (mkF K.m 596 #[.val (.long u), .second, .val (.int n)] [.ref a138])
    exact C.areturn rfl rfl rfl d15_596 (by decide) (by decide) ⟨a138, [c0, c1, c2, c3, c4, c5, c6, c7, c8], rfl, S162, by rw [cn]; rfl, hdg, by rw [cn, show ((10 : Int) ^ (9 : Int).toNat) = 1000000000 by decide]; exact dig9 (D0.lit (by decide)) (D1.lit (by decide)) (D2.lit (by decide)) (D3.lit (by decide)) (D4.lit (by decide)) (D5.lit (by decide)) (D6.lit (by decide)) (D7.lit (by decide)) (D8.lit (by decide))⟩
  · skip
    refine C.tswIn 597 d15_1 (by omega) (by rw [cn]; rfl) (by decide) (by decide) ?_
    show C.W h [] 0 0 (mkF K.m 597 #[.val (.long u), .second, .val (.int n)] [])
    refine C.new (B.1 _ (List.mem_of_getElem? (i := 19) rfl)) (B.1 _ (List.mem_of_getElem? (i := 20) rfl)) (B.1 _ (List.mem_of_getElem? (i := 21) rfl)) d15_597 (by decide) (by decide) fun h163 a164 g163 z163 o163 K163 En163 Dn163 => ?_
    show C.W h163 [a164] 1 4 (mkF K.m 600 #[.val (.long u), .second, .val (.int n)] [.ref a164])
    have Fv : Fld Z h163 a164 "java/lang/String" "value" "[B" (.null) := Dn163 (Or.inr (B.1 _ (List.mem_of_getElem? (i := 51) rfl))) (ty := (.array .byte)) (by decide)
    have Fc : Fld Z h163 a164 "java/lang/String" "coder" "B" (.int 0) := Dn163 (Or.inr (B.1 _ (List.mem_of_getElem? (i := 49) rfl))) (ty := .byte) (by decide)
    refine C.dup rfl d15_600 ?_
    refine C.bipush (v := (10 : Int32)) d15_601 (by first | rfl | decide) ?_
    refine C.newarr 10 10 (B.1 _ (List.mem_of_getElem? (i := 22) rfl)) d15_603 (by first | rfl | decide) (by decide) (by decide) (by decide) (by decide) fun h165 a166 g165 z165 o165 K165 An165 => ?_
    have An165 : Ary Z h165 a166 .char [.int 0, .int 0, .int 0, .int 0, .int 0, .int 0, .int 0, .int 0, .int 0, .int 0] := An165
    show C.W h165 [a166, a164] 2 14 (mkF K.m 605 #[.val (.long u), .second, .val (.int n)] [.ref a166, .ref a164, .ref a164])
    refine C.dup rfl d15_605 ?_
    refine C.iconst (v := (0 : Int32)) d15_606 (by first | rfl | decide) ?_
    refine C.lloadN d15_607 rfl ?_
    refine C.ldc2Long (v := (1000000000 : Int64)) (B.1 _ (List.mem_of_getElem? (i := 11) rfl)) d15_608 ?_
    refine C.callS [.long u, .long (1000000000 : Int64)] [.int (0 : Int32), .ref a166, .ref a166, .ref a164, .ref a164] 5 (B.1 _ (List.mem_of_getElem? (i := 23) rfl)) (B.1 _ (List.mem_of_getElem? (i := 24) rfl)) (B.1 _ (List.mem_of_getElem? (i := 17) rfl)) (B.1 _ (List.mem_of_getElem? (i := 25) rfl)) (by decide) pd__28_JJ_29_C rfl id (c_ch B (u := u) (p := (1000000000 : Int64)) h0 (by decide)) d15_611 rfl rfl rfl (by decide) (by decide) (by decide) (by decide) all0 fun v167 h167 z167 K167 q167 => ?_
    obtain ⟨c0, rfl, g0, D0, rfl⟩ := q167
    show C.W h165 [a166, a164] 2 14 (mkF K.m 614 #[.val (.long u), .second, .val (.int n)] [.int c0, .int (0 : Int32), .ref a166, .ref a166, .ref a164, .ref a164])
    refine C.castore 0 An165 (by first | rfl | decide) (Nat.le_of_ble_eq_true rfl) (by omega) (by omega) d15_614 (List.mem_of_getElem? (i := 0) rfl) fun h168 z168 K168 Aw168 => ?_
    have Aw168 : Ary Z h168 a166 .char [.int c0, .int 0, .int 0, .int 0, .int 0, .int 0, .int 0, .int 0, .int 0, .int 0] := Aw168
    show C.W h168 [a166, a164] 2 14 (mkF K.m 615 #[.val (.long u), .second, .val (.int n)] [.ref a166, .ref a164, .ref a164])
    refine C.dup rfl d15_615 ?_
    refine C.iconst (v := (1 : Int32)) d15_616 (by first | rfl | decide) ?_
    refine C.lloadN d15_617 rfl ?_
    refine C.ldc2Long (v := (100000000 : Int64)) (B.1 _ (List.mem_of_getElem? (i := 10) rfl)) d15_618 ?_
    refine C.callS [.long u, .long (100000000 : Int64)] [.int (1 : Int32), .ref a166, .ref a166, .ref a164, .ref a164] 5 (B.1 _ (List.mem_of_getElem? (i := 23) rfl)) (B.1 _ (List.mem_of_getElem? (i := 24) rfl)) (B.1 _ (List.mem_of_getElem? (i := 17) rfl)) (B.1 _ (List.mem_of_getElem? (i := 25) rfl)) (by decide) pd__28_JJ_29_C rfl id (c_ch B (u := u) (p := (100000000 : Int64)) h0 (by decide)) d15_621 rfl rfl rfl (by decide) (by decide) (by decide) (by decide) all0 fun v169 h169 z169 K169 q169 => ?_
    obtain ⟨c1, rfl, g1, D1, rfl⟩ := q169
    show C.W h168 [a166, a164] 2 14 (mkF K.m 624 #[.val (.long u), .second, .val (.int n)] [.int c1, .int (1 : Int32), .ref a166, .ref a166, .ref a164, .ref a164])
    refine C.castore 1 Aw168 (by first | rfl | decide) (Nat.le_of_ble_eq_true rfl) (by omega) (by omega) d15_624 (List.mem_of_getElem? (i := 0) rfl) fun h170 z170 K170 Aw170 => ?_
    have Aw170 : Ary Z h170 a166 .char [.int c0, .int c1, .int 0, .int 0, .int 0, .int 0, .int 0, .int 0, .int 0, .int 0] := Aw170
    show C.W h170 [a166, a164] 2 14 (mkF K.m 625 #[.val (.long u), .second, .val (.int n)] [.ref a166, .ref a164, .ref a164])
    refine C.dup rfl d15_625 ?_
    refine C.iconst (v := (2 : Int32)) d15_626 (by first | rfl | decide) ?_
    refine C.lloadN d15_627 rfl ?_
    refine C.ldc2Long (v := (10000000 : Int64)) (B.1 _ (List.mem_of_getElem? (i := 9) rfl)) d15_628 ?_
    refine C.callS [.long u, .long (10000000 : Int64)] [.int (2 : Int32), .ref a166, .ref a166, .ref a164, .ref a164] 5 (B.1 _ (List.mem_of_getElem? (i := 23) rfl)) (B.1 _ (List.mem_of_getElem? (i := 24) rfl)) (B.1 _ (List.mem_of_getElem? (i := 17) rfl)) (B.1 _ (List.mem_of_getElem? (i := 25) rfl)) (by decide) pd__28_JJ_29_C rfl id (c_ch B (u := u) (p := (10000000 : Int64)) h0 (by decide)) d15_631 rfl rfl rfl (by decide) (by decide) (by decide) (by decide) all0 fun v171 h171 z171 K171 q171 => ?_
    obtain ⟨c2, rfl, g2, D2, rfl⟩ := q171
    show C.W h170 [a166, a164] 2 14 (mkF K.m 634 #[.val (.long u), .second, .val (.int n)] [.int c2, .int (2 : Int32), .ref a166, .ref a166, .ref a164, .ref a164])
    refine C.castore 2 Aw170 (by first | rfl | decide) (Nat.le_of_ble_eq_true rfl) (by omega) (by omega) d15_634 (List.mem_of_getElem? (i := 0) rfl) fun h172 z172 K172 Aw172 => ?_
    have Aw172 : Ary Z h172 a166 .char [.int c0, .int c1, .int c2, .int 0, .int 0, .int 0, .int 0, .int 0, .int 0, .int 0] := Aw172
    show C.W h172 [a166, a164] 2 14 (mkF K.m 635 #[.val (.long u), .second, .val (.int n)] [.ref a166, .ref a164, .ref a164])
    refine C.dup rfl d15_635 ?_
    refine C.iconst (v := (3 : Int32)) d15_636 (by first | rfl | decide) ?_
    refine C.lloadN d15_637 rfl ?_
    refine C.ldc2Long (v := (1000000 : Int64)) (B.1 _ (List.mem_of_getElem? (i := 8) rfl)) d15_638 ?_
    refine C.callS [.long u, .long (1000000 : Int64)] [.int (3 : Int32), .ref a166, .ref a166, .ref a164, .ref a164] 5 (B.1 _ (List.mem_of_getElem? (i := 23) rfl)) (B.1 _ (List.mem_of_getElem? (i := 24) rfl)) (B.1 _ (List.mem_of_getElem? (i := 17) rfl)) (B.1 _ (List.mem_of_getElem? (i := 25) rfl)) (by decide) pd__28_JJ_29_C rfl id (c_ch B (u := u) (p := (1000000 : Int64)) h0 (by decide)) d15_641 rfl rfl rfl (by decide) (by decide) (by decide) (by decide) all0 fun v173 h173 z173 K173 q173 => ?_
    obtain ⟨c3, rfl, g3, D3, rfl⟩ := q173
    show C.W h172 [a166, a164] 2 14 (mkF K.m 644 #[.val (.long u), .second, .val (.int n)] [.int c3, .int (3 : Int32), .ref a166, .ref a166, .ref a164, .ref a164])
    refine C.castore 3 Aw172 (by first | rfl | decide) (Nat.le_of_ble_eq_true rfl) (by omega) (by omega) d15_644 (List.mem_of_getElem? (i := 0) rfl) fun h174 z174 K174 Aw174 => ?_
    have Aw174 : Ary Z h174 a166 .char [.int c0, .int c1, .int c2, .int c3, .int 0, .int 0, .int 0, .int 0, .int 0, .int 0] := Aw174
    show C.W h174 [a166, a164] 2 14 (mkF K.m 645 #[.val (.long u), .second, .val (.int n)] [.ref a166, .ref a164, .ref a164])
    refine C.dup rfl d15_645 ?_
    refine C.iconst (v := (4 : Int32)) d15_646 (by first | rfl | decide) ?_
    refine C.lloadN d15_647 rfl ?_
    refine C.ldc2Long (v := (100000 : Int64)) (B.1 _ (List.mem_of_getElem? (i := 7) rfl)) d15_648 ?_
    refine C.callS [.long u, .long (100000 : Int64)] [.int (4 : Int32), .ref a166, .ref a166, .ref a164, .ref a164] 5 (B.1 _ (List.mem_of_getElem? (i := 23) rfl)) (B.1 _ (List.mem_of_getElem? (i := 24) rfl)) (B.1 _ (List.mem_of_getElem? (i := 17) rfl)) (B.1 _ (List.mem_of_getElem? (i := 25) rfl)) (by decide) pd__28_JJ_29_C rfl id (c_ch B (u := u) (p := (100000 : Int64)) h0 (by decide)) d15_651 rfl rfl rfl (by decide) (by decide) (by decide) (by decide) all0 fun v175 h175 z175 K175 q175 => ?_
    obtain ⟨c4, rfl, g4, D4, rfl⟩ := q175
    show C.W h174 [a166, a164] 2 14 (mkF K.m 654 #[.val (.long u), .second, .val (.int n)] [.int c4, .int (4 : Int32), .ref a166, .ref a166, .ref a164, .ref a164])
    refine C.castore 4 Aw174 (by first | rfl | decide) (Nat.le_of_ble_eq_true rfl) (by omega) (by omega) d15_654 (List.mem_of_getElem? (i := 0) rfl) fun h176 z176 K176 Aw176 => ?_
    have Aw176 : Ary Z h176 a166 .char [.int c0, .int c1, .int c2, .int c3, .int c4, .int 0, .int 0, .int 0, .int 0, .int 0] := Aw176
    show C.W h176 [a166, a164] 2 14 (mkF K.m 655 #[.val (.long u), .second, .val (.int n)] [.ref a166, .ref a164, .ref a164])
    refine C.dup rfl d15_655 ?_
    refine C.iconst (v := (5 : Int32)) d15_656 (by first | rfl | decide) ?_
    refine C.lloadN d15_657 rfl ?_
    refine C.ldc2Long (v := (10000 : Int64)) (B.1 _ (List.mem_of_getElem? (i := 6) rfl)) d15_658 ?_
    refine C.callS [.long u, .long (10000 : Int64)] [.int (5 : Int32), .ref a166, .ref a166, .ref a164, .ref a164] 5 (B.1 _ (List.mem_of_getElem? (i := 23) rfl)) (B.1 _ (List.mem_of_getElem? (i := 24) rfl)) (B.1 _ (List.mem_of_getElem? (i := 17) rfl)) (B.1 _ (List.mem_of_getElem? (i := 25) rfl)) (by decide) pd__28_JJ_29_C rfl id (c_ch B (u := u) (p := (10000 : Int64)) h0 (by decide)) d15_661 rfl rfl rfl (by decide) (by decide) (by decide) (by decide) all0 fun v177 h177 z177 K177 q177 => ?_
    obtain ⟨c5, rfl, g5, D5, rfl⟩ := q177
    show C.W h176 [a166, a164] 2 14 (mkF K.m 664 #[.val (.long u), .second, .val (.int n)] [.int c5, .int (5 : Int32), .ref a166, .ref a166, .ref a164, .ref a164])
    refine C.castore 5 Aw176 (by first | rfl | decide) (Nat.le_of_ble_eq_true rfl) (by omega) (by omega) d15_664 (List.mem_of_getElem? (i := 0) rfl) fun h178 z178 K178 Aw178 => ?_
    have Aw178 : Ary Z h178 a166 .char [.int c0, .int c1, .int c2, .int c3, .int c4, .int c5, .int 0, .int 0, .int 0, .int 0] := Aw178
    show C.W h178 [a166, a164] 2 14 (mkF K.m 665 #[.val (.long u), .second, .val (.int n)] [.ref a166, .ref a164, .ref a164])
    refine C.dup rfl d15_665 ?_
    refine C.bipush (v := (6 : Int32)) d15_666 (by first | rfl | decide) ?_
    refine C.lloadN d15_668 rfl ?_
    refine C.ldc2Long (v := (1000 : Int64)) (B.1 _ (List.mem_of_getElem? (i := 5) rfl)) d15_669 ?_
    refine C.callS [.long u, .long (1000 : Int64)] [.int (6 : Int32), .ref a166, .ref a166, .ref a164, .ref a164] 5 (B.1 _ (List.mem_of_getElem? (i := 23) rfl)) (B.1 _ (List.mem_of_getElem? (i := 24) rfl)) (B.1 _ (List.mem_of_getElem? (i := 17) rfl)) (B.1 _ (List.mem_of_getElem? (i := 25) rfl)) (by decide) pd__28_JJ_29_C rfl id (c_ch B (u := u) (p := (1000 : Int64)) h0 (by decide)) d15_672 rfl rfl rfl (by decide) (by decide) (by decide) (by decide) all0 fun v179 h179 z179 K179 q179 => ?_
    obtain ⟨c6, rfl, g6, D6, rfl⟩ := q179
    show C.W h178 [a166, a164] 2 14 (mkF K.m 675 #[.val (.long u), .second, .val (.int n)] [.int c6, .int (6 : Int32), .ref a166, .ref a166, .ref a164, .ref a164])
    refine C.castore 6 Aw178 (by first | rfl | decide) (Nat.le_of_ble_eq_true rfl) (by omega) (by omega) d15_675 (List.mem_of_getElem? (i := 0) rfl) fun h180 z180 K180 Aw180 => ?_
    have Aw180 : Ary Z h180 a166 .char [.int c0, .int c1, .int c2, .int c3, .int c4, .int c5, .int c6, .int 0, .int 0, .int 0] := Aw180
    show C.W h180 [a166, a164] 2 14 (mkF K.m 676 #[.val (.long u), .second, .val (.int n)] [.ref a166, .ref a164, .ref a164])
    refine C.dup rfl d15_676 ?_
    refine C.bipush (v := (7 : Int32)) d15_677 (by first | rfl | decide) ?_
    refine C.lloadN d15_679 rfl ?_
    refine C.ldc2Long (v := (100 : Int64)) (B.1 _ (List.mem_of_getElem? (i := 4) rfl)) d15_680 ?_
    refine C.callS [.long u, .long (100 : Int64)] [.int (7 : Int32), .ref a166, .ref a166, .ref a164, .ref a164] 5 (B.1 _ (List.mem_of_getElem? (i := 23) rfl)) (B.1 _ (List.mem_of_getElem? (i := 24) rfl)) (B.1 _ (List.mem_of_getElem? (i := 17) rfl)) (B.1 _ (List.mem_of_getElem? (i := 25) rfl)) (by decide) pd__28_JJ_29_C rfl id (c_ch B (u := u) (p := (100 : Int64)) h0 (by decide)) d15_683 rfl rfl rfl (by decide) (by decide) (by decide) (by decide) all0 fun v181 h181 z181 K181 q181 => ?_
    obtain ⟨c7, rfl, g7, D7, rfl⟩ := q181
    show C.W h180 [a166, a164] 2 14 (mkF K.m 686 #[.val (.long u), .second, .val (.int n)] [.int c7, .int (7 : Int32), .ref a166, .ref a166, .ref a164, .ref a164])
    refine C.castore 7 Aw180 (by first | rfl | decide) (Nat.le_of_ble_eq_true rfl) (by omega) (by omega) d15_686 (List.mem_of_getElem? (i := 0) rfl) fun h182 z182 K182 Aw182 => ?_
    have Aw182 : Ary Z h182 a166 .char [.int c0, .int c1, .int c2, .int c3, .int c4, .int c5, .int c6, .int c7, .int 0, .int 0] := Aw182
    show C.W h182 [a166, a164] 2 14 (mkF K.m 687 #[.val (.long u), .second, .val (.int n)] [.ref a166, .ref a164, .ref a164])
    refine C.dup rfl d15_687 ?_
    refine C.bipush (v := (8 : Int32)) d15_688 (by first | rfl | decide) ?_
    refine C.lloadN d15_690 rfl ?_
    refine C.ldc2Long (v := (10 : Int64)) (B.1 _ (List.mem_of_getElem? (i := 3) rfl)) d15_691 ?_
    refine C.callS [.long u, .long (10 : Int64)] [.int (8 : Int32), .ref a166, .ref a166, .ref a164, .ref a164] 5 (B.1 _ (List.mem_of_getElem? (i := 23) rfl)) (B.1 _ (List.mem_of_getElem? (i := 24) rfl)) (B.1 _ (List.mem_of_getElem? (i := 17) rfl)) (B.1 _ (List.mem_of_getElem? (i := 25) rfl)) (by decide) pd__28_JJ_29_C rfl id (c_ch B (u := u) (p := (10 : Int64)) h0 (by decide)) d15_694 rfl rfl rfl (by decide) (by decide) (by decide) (by decide) all0 fun v183 h183 z183 K183 q183 => ?_
    obtain ⟨c8, rfl, g8, D8, rfl⟩ := q183
    show C.W h182 [a166, a164] 2 14 (mkF K.m 697 #[.val (.long u), .second, .val (.int n)] [.int c8, .int (8 : Int32), .ref a166, .ref a166, .ref a164, .ref a164])
    refine C.castore 8 Aw182 (by first | rfl | decide) (Nat.le_of_ble_eq_true rfl) (by omega) (by omega) d15_697 (List.mem_of_getElem? (i := 0) rfl) fun h184 z184 K184 Aw184 => ?_
    have Aw184 : Ary Z h184 a166 .char [.int c0, .int c1, .int c2, .int c3, .int c4, .int c5, .int c6, .int c7, .int c8, .int 0] := Aw184
    show C.W h184 [a166, a164] 2 14 (mkF K.m 698 #[.val (.long u), .second, .val (.int n)] [.ref a166, .ref a164, .ref a164])
    refine C.dup rfl d15_698 ?_
    refine C.bipush (v := (9 : Int32)) d15_699 (by first | rfl | decide) ?_
    refine C.lloadN d15_701 rfl ?_
    refine C.lconst (v := (1 : Int64)) d15_702 (by first | rfl | decide) ?_
    refine C.callS [.long u, .long (1 : Int64)] [.int (9 : Int32), .ref a166, .ref a166, .ref a164, .ref a164] 5 (B.1 _ (List.mem_of_getElem? (i := 23) rfl)) (B.1 _ (List.mem_of_getElem? (i := 24) rfl)) (B.1 _ (List.mem_of_getElem? (i := 17) rfl)) (B.1 _ (List.mem_of_getElem? (i := 25) rfl)) (by decide) pd__28_JJ_29_C rfl id (c_ch B (u := u) (p := (1 : Int64)) h0 (by decide)) d15_703 rfl rfl rfl (by decide) (by decide) (by decide) (by decide) all0 fun v185 h185 z185 K185 q185 => ?_
    obtain ⟨c9, rfl, g9, D9, rfl⟩ := q185
    show C.W h184 [a166, a164] 2 14 (mkF K.m 706 #[.val (.long u), .second, .val (.int n)] [.int c9, .int (9 : Int32), .ref a166, .ref a166, .ref a164, .ref a164])
    refine C.castore 9 Aw184 (by first | rfl | decide) (Nat.le_of_ble_eq_true rfl) (by omega) (by omega) d15_706 (List.mem_of_getElem? (i := 0) rfl) fun h186 z186 K186 Aw186 => ?_
    have Aw186 : Ary Z h186 a166 .char [.int c0, .int c1, .int c2, .int c3, .int c4, .int c5, .int c6, .int c7, .int c8, .int c9] := Aw186
    show C.W h186 [a166, a164] 2 14 (mkF K.m 707 #[.val (.long u), .second, .val (.int n)] [.ref a166, .ref a164, .ref a164])
    have hdg : ∀ c ∈ ([c0, c1, c2, c3, c4, c5, c6, c7, c8, c9] : List Int32), 48 ≤ c.toInt ∧ c.toInt ≤ 57 := by
      intro c hc
      simp only [List.mem_cons, List.not_mem_nil, or_false] at hc
      rcases hc with rfl | rfl | rfl | rfl | rfl | rfl | rfl | rfl | rfl | rfl <;> omega
    have En163_187 := (((((((((((En163.keep K165).keep K168).keep K170).keep K172).keep K174).keep K176).keep K178).keep K180).keep K182).keep K184).keep K186)
    have Fv_188 := (((((((((((Fv.keep K165 nin0).keep K168 (ninS (neA (by omega)) nin0)).keep K170 (ninS (neA (by omega)) nin0)).keep K172 (ninS (neA (by omega)) nin0)).keep K174 (ninS (neA (by omega)) nin0)).keep K176 (ninS (neA (by omega)) nin0)).keep K178 (ninS (neA (by omega)) nin0)).keep K180 (ninS (neA (by omega)) nin0)).keep K182 (ninS (neA (by omega)) nin0)).keep K184 (ninS (neA (by omega)) nin0)).keep K186 (ninS (neA (by omega)) nin0))
    have Fc_189 := (((((((((((Fc.keep K165 nin0).keep K168 (ninS (neA (by omega)) nin0)).keep K170 (ninS (neA (by omega)) nin0)).keep K172 (ninS (neA (by omega)) nin0)).keep K174 (ninS (neA (by omega)) nin0)).keep K176 (ninS (neA (by omega)) nin0)).keep K178 (ninS (neA (by omega)) nin0)).keep K180 (ninS (neA (by omega)) nin0)).keep K182 (ninS (neA (by omega)) nin0)).keep K184 (ninS (neA (by omega)) nin0)).keep K186 (ninS (neA (by omega)) nin0))
    refine C.callN a164 [.ref a166] [.ref a164] 1 (B.1 _ (List.mem_of_getElem? (i := 26) rfl)) (B.1 _ (List.mem_of_getElem? (i := 27) rfl)) (B.1 _ (List.mem_of_getElem? (i := 28) rfl)) rfl (by decide) pd__28__5b_C_29_V rfl id (c_init1 B (cs := [c0, c1, c2, c3, c4, c5, c6, c7, c8, c9]) En163_187 Fv_188 Fc_189 Aw186 (Nat.le_of_ble_eq_true rfl) (fun c hc => by have := hdg c hc; omega) (Nat.le_of_ble_eq_true rfl)) d15_707 rfl rfl rfl (by decide) (by decide) (by decide) (by decide) (allS (List.mem_of_getElem? (i := 1) rfl) all0) fun v190 h190 z190 K190 q190 => ?_
    obtain ⟨rfl, S190⟩ := q190
    show C.W h190 [a166, a164] 3 25 (mkF K.m 710 #[.val (.long u), .second, .val (.int n)] [.ref a164])
    exact C.areturn rfl rfl rfl d15_710 (by decide) (by decide) ⟨a164, [c0, c1, c2, c3, c4, c5, c6, c7, c8, c9], rfl, S190, by rw [cn]; rfl, hdg, by rw [cn, show ((10 : Int) ^ (10 : Int).toNat) = 10000000000 by decide]; exact dig10 (D0.lit (by decide)) (D1.lit (by decide)) (D2.lit (by decide)) (D3.lit (by decide)) (D4.lit (by decide)) (D5.lit (by decide)) (D6.lit (by decide)) (D7.lit (by decide)) (D8.lit (by decide)) (D9.lit (by decide))⟩
  · skip
    refine C.tswOut 711 d15_1 (by omega) (by decide) (by decide) ?_
    show C.W h [] 0 0 (mkF K.m 711 #[.val (.long u), .second, .val (.int n)] [])
    refine C.new (B.1 _ (List.mem_of_getElem? (i := 19) rfl)) (B.1 _ (List.mem_of_getElem? (i := 20) rfl)) (B.1 _ (List.mem_of_getElem? (i := 21) rfl)) d15_711 (by decide) (by decide) fun h191 a192 g191 z191 o191 K191 En191 Dn191 => ?_
    show C.W h191 [a192] 1 4 (mkF K.m 714 #[.val (.long u), .second, .val (.int n)] [.ref a192])
    have Fv : Fld Z h191 a192 "java/lang/String" "value" "[B" (.null) := Dn191 (Or.inr (B.1 _ (List.mem_of_getElem? (i := 51) rfl))) (ty := (.array .byte)) (by decide)
    have Fc : Fld Z h191 a192 "java/lang/String" "coder" "B" (.int 0) := Dn191 (Or.inr (B.1 _ (List.mem_of_getElem? (i := 49) rfl))) (ty := .byte) (by decide)
    refine C.dup rfl d15_714 ?_
    refine C.bipush (v := (11 : Int32)) d15_715 (by first | rfl | decide) ?_
    refine C.newarr 11 11 (B.1 _ (List.mem_of_getElem? (i := 22) rfl)) d15_717 (by first | rfl | decide) (by decide) (by decide) (by decide) (by decide) fun h193 a194 g193 z193 o193 K193 An193 => ?_
    have An193 : Ary Z h193 a194 .char [.int 0, .int 0, .int 0, .int 0, .int 0, .int 0, .int 0, .int 0, .int 0, .int 0, .int 0] := An193
    show C.W h193 [a194, a192] 2 15 (mkF K.m 719 #[.val (.long u), .second, .val (.int n)] [.ref a194, .ref a192, .ref a192])
    refine C.dup rfl d15_719 ?_
    refine C.iconst (v := (0 : Int32)) d15_720 (by first | rfl | decide) ?_
    refine C.lloadN d15_721 rfl ?_
    refine C.ldc2Long (v := (10000000000 : Int64)) (B.1 _ (List.mem_of_getElem? (i := 12) rfl)) d15_722 ?_
    refine C.callS [.long u, .long (10000000000 : Int64)] [.int (0 : Int32), .ref a194, .ref a194, .ref a192, .ref a192] 5 (B.1 _ (List.mem_of_getElem? (i := 23) rfl)) (B.1 _ (List.mem_of_getElem? (i := 24) rfl)) (B.1 _ (List.mem_of_getElem? (i := 17) rfl)) (B.1 _ (List.mem_of_getElem? (i := 25) rfl)) (by decide) pd__28_JJ_29_C rfl id (c_ch B (u := u) (p := (10000000000 : Int64)) h0 (by decide)) d15_725 rfl rfl rfl (by decide) (by decide) (by decide) (by decide) all0 fun v195 h195 z195 K195 q195 => ?_
    obtain ⟨c0, rfl, g0, D0, rfl⟩ := q195
    show C.W h193 [a194, a192] 2 15 (mkF K.m 728 #[.val (.long u), .second, .val (.int n)] [.int c0, .int (0 : Int32), .ref a194, .ref a194, .ref a192, .ref a192])
    refine C.castore 0 An193 (by first | rfl | decide) (Nat.le_of_ble_eq_true rfl) (by omega) (by omega) d15_728 (List.mem_of_getElem? (i := 0) rfl) fun h196 z196 K196 Aw196 => ?_
    have Aw196 : Ary Z h196 a194 .char [.int c0, .int 0, .int 0, .int 0, .int 0, .int 0, .int 0, .int 0, .int 0, .int 0, .int 0] := Aw196
    show C.W h196 [a194, a192] 2 15 (mkF K.m 729 #[.val (.long u), .second, .val (.int n)] [.ref a194, .ref a192, .ref a192])
    refine C.dup rfl d15_729 ?_
    refine C.iconst (v := (1 : Int32)) d15_730 (by first | rfl | decide) ?_
    refine C.lloadN d15_731 rfl ?_
    refine C.ldc2Long (v := (1000000000 : Int64)) (B.1 _ (List.mem_of_getElem? (i := 11) rfl)) d15_732 ?_
    refine C.callS [.long u, .long (1000000000 : Int64)] [.int (1 : Int32), .ref a194, .ref a194, .ref a192, .ref a192] 5 (B.1 _ (List.mem_of_getElem? (i := 23) rfl)) (B.1 _ (List.mem_of_getElem? (i := 24) rfl)) (B.1 _ (List.mem_of_getElem? (i := 17) rfl)) (B.1 _ (List.mem_of_getElem? (i := 25) rfl)) (by decide) pd__28_JJ_29_C rfl id (c_ch B (u := u) (p := (1000000000 : Int64)) h0 (by decide)) d15_735 rfl rfl rfl (by decide) (by decide) (by decide) (by decide) all0 fun v197 h197 z197 K197 q197 => ?_
    obtain ⟨c1, rfl, g1, D1, rfl⟩ := q197
    show C.W h196 [a194, a192] 2 15 (mkF K.m 738 #[.val (.long u), .second, .val (.int n)] [.int c1, .int (1 : Int32), .ref a194, .ref a194, .ref a192, .ref a192])
    refine C.castore 1 Aw196 (by first | rfl | decide) (Nat.le_of_ble_eq_true rfl) (by omega) (by omega) d15_738 (List.mem_of_getElem? (i := 0) rfl) fun h198 z198 K198 Aw198 => ?_
    have Aw198 : Ary Z h198 a194 .char [.int c0, .int c1, .int 0, .int 0, .int 0, .int 0, .int 0, .int 0, .int 0, .int 0, .int 0] := Aw198
    show C.W h198 [a194, a192] 2 15 (mkF K.m 739 #[.val (.long u), .second, .val (.int n)] [.ref a194, .ref a192, .ref a192])
    refine C.dup rfl d15_739 ?_
    refine C.iconst (v := (2 : Int32)) d15_740 (by first | rfl | decide) ?_
    refine C.lloadN d15_741 rfl ?_
    refine C.ldc2Long (v := (100000000 : Int64)) (B.1 _ (List.mem_of_getElem? (i := 10) rfl)) d15_742 ?_
    refine C.callS [.long u, .long (100000000 : Int64)] [.int (2 : Int32), .ref a194, .ref a194, .ref a192, .ref a192] 5 (B.1 _ (List.mem_of_getElem? (i := 23) rfl)) (B.1 _ (List.mem_of_getElem? (i := 24) rfl)) (B.1 _ (List.mem_of_getElem? (i := 17) rfl)) (B.1 _ (List.mem_of_getElem? (i := 25) rfl)) (by decide) pd__28_JJ_29_C rfl id (c_ch B (u := u) (p := (100000000 : Int64)) h0 (by decide)) d15_745 rfl rfl rfl (by decide) (by decide) (by decide) (by decide) all0 fun v199 h199 z199 K199 q199 => ?_
    obtain ⟨c2, rfl, g2, D2, rfl⟩ := q199
    show C.W h198 [a194, a192] 2 15 (mkF K.m 748 #[.val (.long u), .second, .val (.int n)] [.int c2, .int (2 : Int32), .ref a194, .ref a194, .ref a192, .ref a192])
    refine C.castore 2 Aw198 (by first | rfl | decide) (Nat.le_of_ble_eq_true rfl) (by omega) (by omega) d15_748 (List.mem_of_getElem? (i := 0) rfl) fun h200 z200 K200 Aw200 => ?_
    have Aw200 : Ary Z h200 a194 .char [.int c0, .int c1, .int c2, .int 0, .int 0, .int 0, .int 0, .int 0, .int 0, .int 0, .int 0] := Aw200
    show C.W h200 [a194, a192] 2 15 (mkF K.m 749 #[.val (.long u), .second, .val (.int n)] [.ref a194, .ref a192, .ref a192])
    refine C.dup rfl d15_749 ?_
    refine C.iconst (v := (3 : Int32)) d15_750 (by first | rfl | decide) ?_
    refine C.lloadN d15_751 rfl ?_
    refine C.ldc2Long (v := (10000000 : Int64)) (B.1 _ (List.mem_of_getElem? (i := 9) rfl)) d15_752 ?_
    refine C.callS [.long u, .long (10000000 : Int64)] [.int (3 : Int32), .ref a194, .ref a194, .ref a192, .ref a192] 5 (B.1 _ (List.mem_of_getElem? (i := 23) rfl)) (B.1 _ (List.mem_of_getElem? (i := 24) rfl)) (B.1 _ (List.mem_of_getElem? (i := 17) rfl)) (B.1 _ (List.mem_of_getElem? (i := 25) rfl)) (by decide) pd__28_JJ_29_C rfl id (c_ch B (u := u) (p := (10000000 : Int64)) h0 (by decide)) d15_755 rfl rfl rfl (by decide) (by decide) (by decide) (by decide) all0 fun v201 h201 z201 K201 q201 => ?_
    obtain ⟨c3, rfl, g3, D3, rfl⟩ := q201
    show C.W h200 [a194, a192] 2 15 (mkF K.m 758 #[.val (.long u), .second, .val (.int n)] [.int c3, .int (3 : Int32), .ref a194, .ref a194, .ref a192, .ref a192])
    refine C.castore 3 Aw200 (by first | rfl | decide) (Nat.le_of_ble_eq_true rfl) (by omega) (by omega) d15_758 (List.mem_of_getElem? (i := 0) rfl) fun h202 z202 K202 Aw202 => ?_
    have Aw202 : Ary Z h202 a194 .char [.int c0, .int c1, .int c2, .int c3, .int 0, .int 0, .int 0, .int 0, .int 0, .int 0, .int 0] := Aw202
    show C.W h202 [a194, a192] 2 15 (mkF K.m 759 #[.val (.long u), .second, .val (.int n)] [.ref a194, .ref a192, .ref a192])
    refine C.dup rfl d15_759 ?_
    refine C.iconst (v := (4 : Int32)) d15_760 (by first | rfl | decide) ?_
    refine C.lloadN d15_761 rfl ?_
    refine C.ldc2Long (v := (1000000 : Int64)) (B.1 _ (List.mem_of_getElem? (i := 8) rfl)) d15_762 ?_
    refine C.callS [.long u, .long (1000000 : Int64)] [.int (4 : Int32), .ref a194, .ref a194, .ref a192, .ref a192] 5 (B.1 _ (List.mem_of_getElem? (i := 23) rfl)) (B.1 _ (List.mem_of_getElem? (i := 24) rfl)) (B.1 _ (List.mem_of_getElem? (i := 17) rfl)) (B.1 _ (List.mem_of_getElem? (i := 25) rfl)) (by decide) pd__28_JJ_29_C rfl id (c_ch B (u := u) (p := (1000000 : Int64)) h0 (by decide)) d15_765 rfl rfl rfl (by decide) (by decide) (by decide) (by decide) all0 fun v203 h203 z203 K203 q203 => ?_
    obtain ⟨c4, rfl, g4, D4, rfl⟩ := q203
    show C.W h202 [a194, a192] 2 15 (mkF K.m 768 #[.val (.long u), .second, .val (.int n)] [.int c4, .int (4 : Int32), .ref a194, .ref a194, .ref a192, .ref a192])
    refine C.castore 4 Aw202 (by first | rfl | decide) (Nat.le_of_ble_eq_true rfl) (by omega) (by omega) d15_768 (List.mem_of_getElem? (i := 0) rfl) fun h204 z204 K204 Aw204 => ?_
    have Aw204 : Ary Z h204 a194 .char [.int c0, .int c1, .int c2, .int c3, .int c4, .int 0, .int 0, .int 0, .int 0, .int 0, .int 0] := Aw204
    show C.W h204 [a194, a192] 2 15 (mkF K.m 769 #[.val (.long u), .second, .val (.int n)] [.ref a194, .ref a192, .ref a192])
    refine C.dup rfl d15_769 ?_
    refine C.iconst (v := (5 : Int32)) d15_770 (by first | rfl | decide) ?_
    refine C.lloadN d15_771 rfl ?_
    refine C.ldc2Long (v := (100000 : Int64)) (B.1 _ (List.mem_of_getElem? (i := 7) rfl)) d15_772 ?_
    refine C.callS [.long u, .long (100000 : Int64)] [.int (5 : Int32), .ref a194, .ref a194, .ref a192, .ref a192] 5 (B.1 _ (List.mem_of_getElem? (i := 23) rfl)) (B.1 _ (List.mem_of_getElem? (i := 24) rfl)) (B.1 _ (List.mem_of_getElem? (i := 17) rfl)) (B.1 _ (List.mem_of_getElem? (i := 25) rfl)) (by decide) pd__28_JJ_29_C rfl id (c_ch B (u := u) (p := (100000 : Int64)) h0 (by decide)) d15_775 rfl rfl rfl (by decide) (by decide) (by decide) (by decide) all0 fun v205 h205 z205 K205 q205 => ?_
    obtain ⟨c5, rfl, g5, D5, rfl⟩ := q205
    show C.W h204 [a194, a192] 2 15 (mkF K.m 778 #[.val (.long u), .second, .val (.int n)] [.int c5, .int (5 : Int32), .ref a194, .ref a194, .ref a192, .ref a192])
    refine C.castore 5 Aw204 (by first | rfl | decide) (Nat.le_of_ble_eq_true rfl) (by omega) (by omega) d15_778 (List.mem_of_getElem? (i := 0) rfl) fun h206 z206 K206 Aw206 => ?_
    have Aw206 : Ary Z h206 a194 .char [.int c0, .int c1, .int c2, .int c3, .int c4, .int c5, .int 0, .int 0, .int 0, .int 0, .int 0] := Aw206
    show C.W h206 [a194, a192] 2 15 (mkF K.m 779 #[.val (.long u), .second, .val (.int n)] [.ref a194, .ref a192, .ref a192])
    refine C.dup rfl d15_779 ?_
    refine C.bipush (v := (6 : Int32)) d15_780 (by first | rfl | decide) ?_
    refine C.lloadN d15_782 rfl ?_
    refine C.ldc2Long (v := (10000 : Int64)) (B.1 _ (List.mem_of_getElem? (i := 6) rfl)) d15_783 ?_
    refine C.callS [.long u, .long (10000 : Int64)] [.int (6 : Int32), .ref a194, .ref a194, .ref a192, .ref a192] 5 (B.1 _ (List.mem_of_getElem? (i := 23) rfl)) (B.1 _ (List.mem_of_getElem? (i := 24) rfl)) (B.1 _ (List.mem_of_getElem? (i := 17) rfl)) (B.1 _ (List.mem_of_getElem? (i := 25) rfl)) (by decide) pd__28_JJ_29_C rfl id (c_ch B (u := u) (p := (10000 : Int64)) h0 (by decide)) d15_786 rfl rfl rfl (by decide) (by decide) (by decide) (by decide) all0 fun v207 h207 z207 K207 q207 => ?_
    obtain ⟨c6, rfl, g6, D6, rfl⟩ := q207
    show C.W h206 [a194, a192] 2 15 (mkF K.m 789 #[.val (.long u), .second, .val (.int n)] [.int c6, .int (6 : Int32), .ref a194, .ref a194, .ref a192, .ref a192])
    refine C.castore 6 Aw206 (by first | rfl | decide) (Nat.le_of_ble_eq_true rfl) (by omega) (by omega) d15_789 (List.mem_of_getElem? (i := 0) rfl) fun h208 z208 K208 Aw208 => ?_
    have Aw208 : Ary Z h208 a194 .char [.int c0, .int c1, .int c2, .int c3, .int c4, .int c5, .int c6, .int 0, .int 0, .int 0, .int 0] := Aw208
    show C.W h208 [a194, a192] 2 15 (mkF K.m 790 #[.val (.long u), .second, .val (.int n)] [.ref a194, .ref a192, .ref a192])
    refine C.dup rfl d15_790 ?_
    refine C.bipush (v := (7 : Int32)) d15_791 (by first | rfl | decide) ?_
    refine C.lloadN d15_793 rfl ?_
    refine C.ldc2Long (v := (1000 : Int64)) (B.1 _ (List.mem_of_getElem? (i := 5) rfl)) d15_794 ?_
    refine C.callS [.long u, .long (1000 : Int64)] [.int (7 : Int32), .ref a194, .ref a194, .ref a192, .ref a192] 5 (B.1 _ (List.mem_of_getElem? (i := 23) rfl)) (B.1 _ (List.mem_of_getElem? (i := 24) rfl)) (B.1 _ (List.mem_of_getElem? (i := 17) rfl)) (B.1 _ (List.mem_of_getElem? (i := 25) rfl)) (by decide) pd__28_JJ_29_C rfl id (c_ch B (u := u) (p := (1000 : Int64)) h0 (by decide)) d15_797 rfl rfl rfl (by decide) (by decide) (by decide) (by decide) all0 fun v209 h209 z209 K209 q209 => ?_
    obtain ⟨c7, rfl, g7, D7, rfl⟩ := q209
    show C.W h208 [a194, a192] 2 15 (mkF K.m 800 #[.val (.long u), .second, .val (.int n)] [.int c7, .int (7 : Int32), .ref a194, .ref a194, .ref a192, .ref a192])
    refine C.castore 7 Aw208 (by first | rfl | decide) (Nat.le_of_ble_eq_true rfl) (by omega) (by omega) d15_800 (List.mem_of_getElem? (i := 0) rfl) fun h210 z210 K210 Aw210 => ?_
    have Aw210 : Ary Z h210 a194 .char [.int c0, .int c1, .int c2, .int c3, .int c4, .int c5, .int c6, .int c7, .int 0, .int 0, .int 0] := Aw210
    show C.W h210 [a194, a192] 2 15 (mkF K.m 801 #[.val (.long u), .second, .val (.int n)] [.ref a194, .ref a192, .ref a192])
    refine C.dup rfl d15_801 ?_
    refine C.bipush (v := (8 : Int32)) d15_802 (by first | rfl | decide) ?_
    refine C.lloadN d15_804 rfl ?_
    refine C.ldc2Long (v := (100 : Int64)) (B.1 _ (List.mem_of_getElem? (i := 4) rfl)) d15_805 ?_
    refine C.callS [.long u, .long (100 : Int64)] [.int (8 : Int32), .ref a194, .ref a194, .ref a192, .ref a192] 5 (B.1 _ (List.mem_of_getElem? (i := 23) rfl)) (B.1 _ (List.mem_of_getElem? (i := 24) rfl)) (B.1 _ (List.mem_of_getElem? (i := 17) rfl)) (B.1 _ (List.mem_of_getElem? (i := 25) rfl)) (by decide) pd__28_JJ_29_C rfl id (c_ch B (u := u) (p := (100 : Int64)) h0 (by decide)) d15_808 rfl rfl rfl (by decide) (by decide) (by decide) (by decide) all0 fun v211 h211 z211 K211 q211 => ?_
    obtain ⟨c8, rfl, g8, D8, rfl⟩ := q211
    show C.W h210 [a194, a192] 2 15 (mkF K.m 811 #[.val (.long u), .second, .val (.int n)] [.int c8, .int (8 : Int32), .ref a194, .ref a194, .ref a192, .ref a192])
    refine C.castore 8 Aw210 (by first | rfl | decide) (Nat.le_of_ble_eq_true rfl) (by omega) (by omega) d15_811 (List.mem_of_getElem? (i := 0) rfl) fun h212 z212 K212 Aw212 => ?_
    have Aw212 : Ary Z h212 a194 .char [.int c0, .int c1, .int c2, .int c3, .int c4, .int c5, .int c6, .int c7, .int c8, .int 0, .int 0] := Aw212
    show C.W h212 [a194, a192] 2 15 (mkF K.m 812 #[.val (.long u), .second, .val (.int n)] [.ref a194, .ref a192, .ref a192])
    refine C.dup rfl d15_812 ?_
    refine C.bipush (v := (9 : Int32)) d15_813 (by first | rfl | decide) ?_
    refine C.lloadN d15_815 rfl ?_
    refine C.ldc2Long (v := (10 : Int64)) (B.1 _ (List.mem_of_getElem? (i := 3) rfl)) d15_816 ?_
    refine C.callS [.long u, .long (10 : Int64)] [.int (9 : Int32), .ref a194, .ref a194, .ref a192, .ref a192] 5 (B.1 _ (List.mem_of_getElem? (i := 23) rfl)) (B.1 _ (List.mem_of_getElem? (i := 24) rfl)) (B.1 _ (List.mem_of_getElem? (i := 17) rfl)) (B.1 _ (List.mem_of_getElem? (i := 25) rfl)) (by decide) pd__28_JJ_29_C rfl id (c_ch B (u := u) (p := (10 : Int64)) h0 (by decide)) d15_819 rfl rfl rfl (by decide) (by decide) (by decide) (by decide) all0 fun v213 h213 z213 K213 q213 => ?_
    obtain ⟨c9, rfl, g9, D9, rfl⟩ := q213
    show C.W h212 [a194, a192] 2 15 (mkF K.m 822 #[.val (.long u), .second, .val (.int n)] [.int c9, .int (9 : Int32), .ref a194, .ref a194, .ref a192, .ref a192])
    refine C.castore 9 Aw212 (by first | rfl | decide) (Nat.le_of_ble_eq_true rfl) (by omega) (by omega) d15_822 (List.mem_of_getElem? (i := 0) rfl) fun h214 z214 K214 Aw214 => ?_
    have Aw214 : Ary Z h214 a194 .char [.int c0, .int c1, .int c2, .int c3, .int c4, .int c5, .int c6, .int c7, .int c8, .int c9, .int 0] := Aw214
    show C.W h214 [a194, a192] 2 15 (mkF K.m 823 #[.val (.long u), .second, .val (.int n)] [.ref a194, .ref a192, .ref a192])
    refine C.dup rfl d15_823 ?_
    refine C.bipush (v := (10 : Int32)) d15_824 (by first | rfl | decide) ?_
    refine C.lloadN d15_826 rfl ?_
    refine C.lconst (v := (1 : Int64)) d15_827 (by first | rfl | decide) ?_
    refine C.callS [.long u, .long (1 : Int64)] [.int (10 : Int32), .ref a194, .ref a194, .ref a192, .ref a192] 5 (B.1 _ (List.mem_of_getElem? (i := 23) rfl)) (B.1 _ (List.mem_of_getElem? (i := 24) rfl)) (B.1 _ (List.mem_of_getElem? (i := 17) rfl)) (B.1 _ (List.mem_of_getElem? (i := 25) rfl)) (by decide) pd__28_JJ_29_C rfl id (c_ch B (u := u) (p := (1 : Int64)) h0 (by decide)) d15_828 rfl rfl rfl (by decide) (by decide) (by decide) (by decide) all0 fun v215 h215 z215 K215 q215 => ?_
    obtain ⟨c10, rfl, g10, D10, rfl⟩ := q215
    show C.W h214 [a194, a192] 2 15 (mkF K.m 831 #[.val (.long u), .second, .val (.int n)] [.int c10, .int (10 : Int32), .ref a194, .ref a194, .ref a192, .ref a192])
    refine C.castore 10 Aw214 (by first | rfl | decide) (Nat.le_of_ble_eq_true rfl) (by omega) (by omega) d15_831 (List.mem_of_getElem? (i := 0) rfl) fun h216 z216 K216 Aw216 => ?_
    have Aw216 : Ary Z h216 a194 .char [.int c0, .int c1, .int c2, .int c3, .int c4, .int c5, .int c6, .int c7, .int c8, .int c9, .int c10] := Aw216
    show C.W h216 [a194, a192] 2 15 (mkF K.m 832 #[.val (.long u), .second, .val (.int n)] [.ref a194, .ref a192, .ref a192])
    have hdg : ∀ c ∈ ([c0, c1, c2, c3, c4, c5, c6, c7, c8, c9, c10] : List Int32), 48 ≤ c.toInt ∧ c.toInt ≤ 57 := by
      intro c hc
      simp only [List.mem_cons, List.not_mem_nil, or_false] at hc
      rcases hc with rfl | rfl | rfl | rfl | rfl | rfl | rfl | rfl | rfl | rfl | rfl <;> omega
    have En191_217 := ((((((((((((En191.keep K193).keep K196).keep K198).keep K200).keep K202).keep K204).keep K206).keep K208).keep K210).keep K212).keep K214).keep K216)
    have Fv_218 := ((((((((((((Fv.keep K193 nin0).keep K196 (ninS (neA (by omega)) nin0)).keep K198 (ninS (neA (by omega)) nin0)).keep K200 (ninS (neA (by omega)) nin0)).keep K202 (ninS (neA (by omega)) nin0)).keep K204 (ninS (neA (by omega)) nin0)).keep K206 (ninS (neA (by omega)) nin0)).keep K208 (ninS (neA (by omega)) nin0)).keep K210 (ninS (neA (by omega)) nin0)).keep K212 (ninS (neA (by omega)) nin0)).keep K214 (ninS (neA (by omega)) nin0)).keep K216 (ninS (neA (by omega)) nin0))
    have Fc_219 := ((((((((((((Fc.keep K193 nin0).keep K196 (ninS (neA (by omega)) nin0)).keep K198 (ninS (neA (by omega)) nin0)).keep K200 (ninS (neA (by omega)) nin0)).keep K202 (ninS (neA (by omega)) nin0)).keep K204 (ninS (neA (by omega)) nin0)).keep K206 (ninS (neA (by omega)) nin0)).keep K208 (ninS (neA (by omega)) nin0)).keep K210 (ninS (neA (by omega)) nin0)).keep K212 (ninS (neA (by omega)) nin0)).keep K214 (ninS (neA (by omega)) nin0)).keep K216 (ninS (neA (by omega)) nin0))
    refine C.callN a192 [.ref a194] [.ref a192] 1 (B.1 _ (List.mem_of_getElem? (i := 26) rfl)) (B.1 _ (List.mem_of_getElem? (i := 27) rfl)) (B.1 _ (List.mem_of_getElem? (i := 28) rfl)) rfl (by decide) pd__28__5b_C_29_V rfl id (c_init1 B (cs := [c0, c1, c2, c3, c4, c5, c6, c7, c8, c9, c10]) En191_217 Fv_218 Fc_219 Aw216 (Nat.le_of_ble_eq_true rfl) (fun c hc => by have := hdg c hc; omega) (Nat.le_of_ble_eq_true rfl)) d15_832 rfl rfl rfl (by decide) (by decide) (by decide) (by decide) (allS (List.mem_of_getElem? (i := 1) rfl) all0) fun v220 h220 z220 K220 q220 => ?_
    obtain ⟨rfl, S220⟩ := q220
    show C.W h220 [a194, a192] 3 26 (mkF K.m 835 #[.val (.long u), .second, .val (.int n)] [.ref a192])
    exact C.areturn rfl rfl rfl d15_835 (by decide) (by decide) ⟨a192, [c0, c1, c2, c3, c4, c5, c6, c7, c8, c9, c10], rfl, S220, by rw [cn]; rfl, hdg, by rw [cn, show ((10 : Int) ^ (11 : Int).toNat) = 100000000000 by decide]; exact dig11 (D0.lit (by decide)) (D1.lit (by decide)) (D2.lit (by decide)) (D3.lit (by decide)) (D4.lit (by decide)) (D5.lit (by decide)) (D6.lit (by decide)) (D7.lit (by decide)) (D8.lit (by decide)) (D9.lit (by decide)) (D10.lit (by decide))⟩
set_option maxRecDepth 65536 in
set_option maxHeartbeats 40000000 in
theorem m_law  (B : Base Z a0) {p0 p1 p2 p3 p4 : Int32} {h : Heap} : Met l Z EL True n0 x code maxLocals Jvm.Pilot.@@N@@.ret room_1 tables_1 #[.int p0, .int p1, .int p2, .int p3, .int p4] h [] (fun v h' => v = some (.int 1)) := by
  refine Met.of (own := "com/example/quire/quire/catalogue/WholeNumberParsePinLaw") (nm := "law") #[.val (.int p0), .val (.int p1), .val (.int p2), .val (.int p3), .val (.int p4), .unset, .unset, .unset, .unset, .unset, .unset, .unset, .unset, .unset, .unset, .unset, .unset] (ew B) rfl rfl (plainFor_of_name pn_com_example_quire_quire_catalogue_WholeNumberParsePinLaw) (fun m => by first | (simp [entryFrame, mkF, argsToLocals, Value.category, maxLocals]; done) | rfl) fun K C => ?_
  refine C.iloadN at_0 rfl ?_
  refine C.i2l at_1 ?_
  refine C.ldc2Long (v := (2147483647 : Int64)) (B.1 _ (List.mem_of_getElem? (i := 0) rfl)) at_2 ?_
  refine C.land at_5 ?_
  obtain ⟨a, e_a⟩ : ∃ z, (p0.toInt64 &&& (2147483647 : Int64)) = z := ⟨_, rfl⟩
  refine C.topJ e_a ?_
  have ha : 0 ≤ a.toInt ∧ a.toInt < 2147483648 := by rw [← e_a]; exact land31 _
  refine C.lstore #[.val (.int p0), .val (.int p1), .val (.int p2), .val (.int p3), .val (.int p4), .val (.long a), .second, .unset, .unset, .unset, .unset, .unset, .unset, .unset, .unset, .unset, .unset] at_6 rfl ?_
  refine C.iconst (v := (1 : Int32)) at_8 (by first | rfl | decide) ?_
  refine C.iloadN at_9 rfl ?_
  refine C.ldcInt (v := (2147483647 : Int32)) (B.1 _ (List.mem_of_getElem? (i := 1) rfl)) at_10 ?_
  refine C.iand at_12 ?_
  refine C.bipush (v := (11 : Int32)) at_13 (by first | rfl | decide) ?_
  refine C.irem (by decide) at_15 ?_
  refine C.iadd at_16 ?_
  obtain ⟨n, e_n⟩ : ∃ z, ((1 : Int32) + ((p1 &&& (2147483647 : Int32)) % (11 : Int32))) = z := ⟨_, rfl⟩
  refine C.topI e_n ?_
  have hn : 1 ≤ n.toInt ∧ n.toInt ≤ 11 := by
    have q := rem_pos (y := 11) 11 (and_pos p1) (by decide) (by decide)
    have k1 : (1 : Int32).toInt = 1 := by decide
    rw [← e_n, add_int (by omega) (by omega), k1]
    omega
  refine C.istore #[.val (.int p0), .val (.int p1), .val (.int p2), .val (.int p3), .val (.int p4), .val (.long a), .second, .val (.int n), .unset, .unset, .unset, .unset, .unset, .unset, .unset, .unset, .unset] at_17 rfl ?_
  refine C.bipush (v := (12 : Int32)) at_19 (by first | rfl | decide) ?_
  refine C.newarr 12 12 (B.1 _ (List.mem_of_getElem? (i := 2) rfl)) at_21 (by first | rfl | decide) (by decide) (by decide) (by decide) (by decide) fun h1 a2 g1 z1 o1 K1 An1 => ?_
  have An1 : Ary Z h1 a2 .long [.long 0, .long 0, .long 0, .long 0, .long 0, .long 0, .long 0, .long 0, .long 0, .long 0, .long 0, .long 0] := An1
  show C.W h1 [a2] 1 12 (mkF K.m 23 #[.val (.int p0), .val (.int p1), .val (.int p2), .val (.int p3), .val (.int p4), .val (.long a), .second, .val (.int n), .unset, .unset, .unset, .unset, .unset, .unset, .unset, .unset, .unset] [.ref a2])
  refine C.dup rfl at_23 ?_
  refine C.iconst (v := (0 : Int32)) at_24 (by first | rfl | decide) ?_
  refine C.lconst (v := (1 : Int64)) at_25 (by first | rfl | decide) ?_
  refine C.lastore 0 An1 (by first | rfl | decide) (Nat.le_of_ble_eq_true rfl) at_26 (List.mem_of_getElem? (i := 0) rfl) fun h3 z3 K3 Aw3 => ?_
  have Aw3 : Ary Z h3 a2 .long [.long (1 : Int64), .long 0, .long 0, .long 0, .long 0, .long 0, .long 0, .long 0, .long 0, .long 0, .long 0, .long 0] := Aw3
  show C.W h3 [a2] 1 12 (mkF K.m 27 #[.val (.int p0), .val (.int p1), .val (.int p2), .val (.int p3), .val (.int p4), .val (.long a), .second, .val (.int n), .unset, .unset, .unset, .unset, .unset, .unset, .unset, .unset, .unset] [.ref a2])
  refine C.dup rfl at_27 ?_
  refine C.iconst (v := (1 : Int32)) at_28 (by first | rfl | decide) ?_
  refine C.ldc2Long (v := (10 : Int64)) (B.1 _ (List.mem_of_getElem? (i := 3) rfl)) at_29 ?_
  refine C.lastore 1 Aw3 (by first | rfl | decide) (Nat.le_of_ble_eq_true rfl) at_32 (List.mem_of_getElem? (i := 0) rfl) fun h4 z4 K4 Aw4 => ?_
  have Aw4 : Ary Z h4 a2 .long [.long (1 : Int64), .long (10 : Int64), .long 0, .long 0, .long 0, .long 0, .long 0, .long 0, .long 0, .long 0, .long 0, .long 0] := Aw4
  show C.W h4 [a2] 1 12 (mkF K.m 33 #[.val (.int p0), .val (.int p1), .val (.int p2), .val (.int p3), .val (.int p4), .val (.long a), .second, .val (.int n), .unset, .unset, .unset, .unset, .unset, .unset, .unset, .unset, .unset] [.ref a2])
  refine C.dup rfl at_33 ?_
  refine C.iconst (v := (2 : Int32)) at_34 (by first | rfl | decide) ?_
  refine C.ldc2Long (v := (100 : Int64)) (B.1 _ (List.mem_of_getElem? (i := 4) rfl)) at_35 ?_
  refine C.lastore 2 Aw4 (by first | rfl | decide) (Nat.le_of_ble_eq_true rfl) at_38 (List.mem_of_getElem? (i := 0) rfl) fun h5 z5 K5 Aw5 => ?_
  have Aw5 : Ary Z h5 a2 .long [.long (1 : Int64), .long (10 : Int64), .long (100 : Int64), .long 0, .long 0, .long 0, .long 0, .long 0, .long 0, .long 0, .long 0, .long 0] := Aw5
  show C.W h5 [a2] 1 12 (mkF K.m 39 #[.val (.int p0), .val (.int p1), .val (.int p2), .val (.int p3), .val (.int p4), .val (.long a), .second, .val (.int n), .unset, .unset, .unset, .unset, .unset, .unset, .unset, .unset, .unset] [.ref a2])
  refine C.dup rfl at_39 ?_
  refine C.iconst (v := (3 : Int32)) at_40 (by first | rfl | decide) ?_
  refine C.ldc2Long (v := (1000 : Int64)) (B.1 _ (List.mem_of_getElem? (i := 5) rfl)) at_41 ?_
  refine C.lastore 3 Aw5 (by first | rfl | decide) (Nat.le_of_ble_eq_true rfl) at_44 (List.mem_of_getElem? (i := 0) rfl) fun h6 z6 K6 Aw6 => ?_
  have Aw6 : Ary Z h6 a2 .long [.long (1 : Int64), .long (10 : Int64), .long (100 : Int64), .long (1000 : Int64), .long 0, .long 0, .long 0, .long 0, .long 0, .long 0, .long 0, .long 0] := Aw6
  show C.W h6 [a2] 1 12 (mkF K.m 45 #[.val (.int p0), .val (.int p1), .val (.int p2), .val (.int p3), .val (.int p4), .val (.long a), .second, .val (.int n), .unset, .unset, .unset, .unset, .unset, .unset, .unset, .unset, .unset] [.ref a2])
  refine C.dup rfl at_45 ?_
  refine C.iconst (v := (4 : Int32)) at_46 (by first | rfl | decide) ?_
  refine C.ldc2Long (v := (10000 : Int64)) (B.1 _ (List.mem_of_getElem? (i := 6) rfl)) at_47 ?_
  refine C.lastore 4 Aw6 (by first | rfl | decide) (Nat.le_of_ble_eq_true rfl) at_50 (List.mem_of_getElem? (i := 0) rfl) fun h7 z7 K7 Aw7 => ?_
  have Aw7 : Ary Z h7 a2 .long [.long (1 : Int64), .long (10 : Int64), .long (100 : Int64), .long (1000 : Int64), .long (10000 : Int64), .long 0, .long 0, .long 0, .long 0, .long 0, .long 0, .long 0] := Aw7
  show C.W h7 [a2] 1 12 (mkF K.m 51 #[.val (.int p0), .val (.int p1), .val (.int p2), .val (.int p3), .val (.int p4), .val (.long a), .second, .val (.int n), .unset, .unset, .unset, .unset, .unset, .unset, .unset, .unset, .unset] [.ref a2])
  refine C.dup rfl at_51 ?_
  refine C.iconst (v := (5 : Int32)) at_52 (by first | rfl | decide) ?_
  refine C.ldc2Long (v := (100000 : Int64)) (B.1 _ (List.mem_of_getElem? (i := 7) rfl)) at_53 ?_
  refine C.lastore 5 Aw7 (by first | rfl | decide) (Nat.le_of_ble_eq_true rfl) at_56 (List.mem_of_getElem? (i := 0) rfl) fun h8 z8 K8 Aw8 => ?_
  have Aw8 : Ary Z h8 a2 .long [.long (1 : Int64), .long (10 : Int64), .long (100 : Int64), .long (1000 : Int64), .long (10000 : Int64), .long (100000 : Int64), .long 0, .long 0, .long 0, .long 0, .long 0, .long 0] := Aw8
  show C.W h8 [a2] 1 12 (mkF K.m 57 #[.val (.int p0), .val (.int p1), .val (.int p2), .val (.int p3), .val (.int p4), .val (.long a), .second, .val (.int n), .unset, .unset, .unset, .unset, .unset, .unset, .unset, .unset, .unset] [.ref a2])
  refine C.dup rfl at_57 ?_
  refine C.bipush (v := (6 : Int32)) at_58 (by first | rfl | decide) ?_
  refine C.ldc2Long (v := (1000000 : Int64)) (B.1 _ (List.mem_of_getElem? (i := 8) rfl)) at_60 ?_
  refine C.lastore 6 Aw8 (by first | rfl | decide) (Nat.le_of_ble_eq_true rfl) at_63 (List.mem_of_getElem? (i := 0) rfl) fun h9 z9 K9 Aw9 => ?_
  have Aw9 : Ary Z h9 a2 .long [.long (1 : Int64), .long (10 : Int64), .long (100 : Int64), .long (1000 : Int64), .long (10000 : Int64), .long (100000 : Int64), .long (1000000 : Int64), .long 0, .long 0, .long 0, .long 0, .long 0] := Aw9
  show C.W h9 [a2] 1 12 (mkF K.m 64 #[.val (.int p0), .val (.int p1), .val (.int p2), .val (.int p3), .val (.int p4), .val (.long a), .second, .val (.int n), .unset, .unset, .unset, .unset, .unset, .unset, .unset, .unset, .unset] [.ref a2])
  refine C.dup rfl at_64 ?_
  refine C.bipush (v := (7 : Int32)) at_65 (by first | rfl | decide) ?_
  refine C.ldc2Long (v := (10000000 : Int64)) (B.1 _ (List.mem_of_getElem? (i := 9) rfl)) at_67 ?_
  refine C.lastore 7 Aw9 (by first | rfl | decide) (Nat.le_of_ble_eq_true rfl) at_70 (List.mem_of_getElem? (i := 0) rfl) fun h10 z10 K10 Aw10 => ?_
  have Aw10 : Ary Z h10 a2 .long [.long (1 : Int64), .long (10 : Int64), .long (100 : Int64), .long (1000 : Int64), .long (10000 : Int64), .long (100000 : Int64), .long (1000000 : Int64), .long (10000000 : Int64), .long 0, .long 0, .long 0, .long 0] := Aw10
  show C.W h10 [a2] 1 12 (mkF K.m 71 #[.val (.int p0), .val (.int p1), .val (.int p2), .val (.int p3), .val (.int p4), .val (.long a), .second, .val (.int n), .unset, .unset, .unset, .unset, .unset, .unset, .unset, .unset, .unset] [.ref a2])
  refine C.dup rfl at_71 ?_
  refine C.bipush (v := (8 : Int32)) at_72 (by first | rfl | decide) ?_
  refine C.ldc2Long (v := (100000000 : Int64)) (B.1 _ (List.mem_of_getElem? (i := 10) rfl)) at_74 ?_
  refine C.lastore 8 Aw10 (by first | rfl | decide) (Nat.le_of_ble_eq_true rfl) at_77 (List.mem_of_getElem? (i := 0) rfl) fun h11 z11 K11 Aw11 => ?_
  have Aw11 : Ary Z h11 a2 .long [.long (1 : Int64), .long (10 : Int64), .long (100 : Int64), .long (1000 : Int64), .long (10000 : Int64), .long (100000 : Int64), .long (1000000 : Int64), .long (10000000 : Int64), .long (100000000 : Int64), .long 0, .long 0, .long 0] := Aw11
  show C.W h11 [a2] 1 12 (mkF K.m 78 #[.val (.int p0), .val (.int p1), .val (.int p2), .val (.int p3), .val (.int p4), .val (.long a), .second, .val (.int n), .unset, .unset, .unset, .unset, .unset, .unset, .unset, .unset, .unset] [.ref a2])
  refine C.dup rfl at_78 ?_
  refine C.bipush (v := (9 : Int32)) at_79 (by first | rfl | decide) ?_
  refine C.ldc2Long (v := (1000000000 : Int64)) (B.1 _ (List.mem_of_getElem? (i := 11) rfl)) at_81 ?_
  refine C.lastore 9 Aw11 (by first | rfl | decide) (Nat.le_of_ble_eq_true rfl) at_84 (List.mem_of_getElem? (i := 0) rfl) fun h12 z12 K12 Aw12 => ?_
  have Aw12 : Ary Z h12 a2 .long [.long (1 : Int64), .long (10 : Int64), .long (100 : Int64), .long (1000 : Int64), .long (10000 : Int64), .long (100000 : Int64), .long (1000000 : Int64), .long (10000000 : Int64), .long (100000000 : Int64), .long (1000000000 : Int64), .long 0, .long 0] := Aw12
  show C.W h12 [a2] 1 12 (mkF K.m 85 #[.val (.int p0), .val (.int p1), .val (.int p2), .val (.int p3), .val (.int p4), .val (.long a), .second, .val (.int n), .unset, .unset, .unset, .unset, .unset, .unset, .unset, .unset, .unset] [.ref a2])
  refine C.dup rfl at_85 ?_
  refine C.bipush (v := (10 : Int32)) at_86 (by first | rfl | decide) ?_
  refine C.ldc2Long (v := (10000000000 : Int64)) (B.1 _ (List.mem_of_getElem? (i := 12) rfl)) at_88 ?_
  refine C.lastore 10 Aw12 (by first | rfl | decide) (Nat.le_of_ble_eq_true rfl) at_91 (List.mem_of_getElem? (i := 0) rfl) fun h13 z13 K13 Aw13 => ?_
  have Aw13 : Ary Z h13 a2 .long [.long (1 : Int64), .long (10 : Int64), .long (100 : Int64), .long (1000 : Int64), .long (10000 : Int64), .long (100000 : Int64), .long (1000000 : Int64), .long (10000000 : Int64), .long (100000000 : Int64), .long (1000000000 : Int64), .long (10000000000 : Int64), .long 0] := Aw13
  show C.W h13 [a2] 1 12 (mkF K.m 92 #[.val (.int p0), .val (.int p1), .val (.int p2), .val (.int p3), .val (.int p4), .val (.long a), .second, .val (.int n), .unset, .unset, .unset, .unset, .unset, .unset, .unset, .unset, .unset] [.ref a2])
  refine C.dup rfl at_92 ?_
  refine C.bipush (v := (11 : Int32)) at_93 (by first | rfl | decide) ?_
  refine C.ldc2Long (v := (100000000000 : Int64)) (B.1 _ (List.mem_of_getElem? (i := 13) rfl)) at_95 ?_
  refine C.lastore 11 Aw13 (by first | rfl | decide) (Nat.le_of_ble_eq_true rfl) at_98 (List.mem_of_getElem? (i := 0) rfl) fun h14 z14 K14 Aw14 => ?_
  have Aw14 : Ary Z h14 a2 .long [.long (1 : Int64), .long (10 : Int64), .long (100 : Int64), .long (1000 : Int64), .long (10000 : Int64), .long (100000 : Int64), .long (1000000 : Int64), .long (10000000 : Int64), .long (100000000 : Int64), .long (1000000000 : Int64), .long (10000000000 : Int64), .long (100000000000 : Int64)] := Aw14
  show C.W h14 [a2] 1 12 (mkF K.m 99 #[.val (.int p0), .val (.int p1), .val (.int p2), .val (.int p3), .val (.int p4), .val (.long a), .second, .val (.int n), .unset, .unset, .unset, .unset, .unset, .unset, .unset, .unset, .unset] [.ref a2])
  refine C.astore #[.val (.int p0), .val (.int p1), .val (.int p2), .val (.int p3), .val (.int p4), .val (.long a), .second, .val (.int n), .val (.ref a2), .unset, .unset, .unset, .unset, .unset, .unset, .unset, .unset] at_99 rfl rfl ?_
  refine C.lload at_101 rfl ?_
  refine C.aload at_103 rfl rfl ?_
  refine C.iload at_105 rfl ?_
  obtain ⟨P, hP, eP, hPp⟩ : ∃ P : Int64, ([.long (1 : Int64), .long (10 : Int64), .long (100 : Int64), .long (1000 : Int64), .long (10000 : Int64), .long (100000 : Int64), .long (1000000 : Int64), .long (10000000 : Int64), .long (100000000 : Int64), .long (1000000000 : Int64), .long (10000000000 : Int64), .long (100000000000 : Int64)] : List Value)[n.toInt.toNat]? = some (.long P) ∧ P.toInt = 10 ^ n.toInt.toNat ∧ 0 < P.toInt := by
    have cn : n.toInt = 1 ∨ n.toInt = 2 ∨ n.toInt = 3 ∨ n.toInt = 4 ∨ n.toInt = 5 ∨ n.toInt = 6 ∨ n.toInt = 7 ∨ n.toInt = 8 ∨ n.toInt = 9 ∨ n.toInt = 10 ∨ n.toInt = 11 := by omega
    rcases cn with cn | cn | cn | cn | cn | cn | cn | cn | cn | cn | cn <;> exact ⟨_, by rw [cn]; rfl, by rw [cn]; decide, by decide⟩
  have hP0 : P ≠ 0 := nz64 hPp
  refine C.laload (x := P) n.toInt.toNat Aw14 (by omega) hP at_107 ?_
  refine C.lrem (by assumption) at_108 ?_
  obtain ⟨z, e_z⟩ : ∃ z, (a % P) = z := ⟨_, rfl⟩
  refine C.topJ e_z ?_
  have ez : z.toInt = a.toInt % P.toInt := by rw [← e_z]; exact lrem_int ha.1
  have hz := emod3 ha.1 hPp
  rw [← ez] at hz
  have hz1 : z.toInt < 2147483648 := by omega
  refine C.lstore #[.val (.int p0), .val (.int p1), .val (.int p2), .val (.int p3), .val (.int p4), .val (.long a), .second, .val (.int n), .val (.ref a2), .val (.long z), .second, .unset, .unset, .unset, .unset, .unset, .unset] at_109 rfl ?_
  refine C.iload at_111 rfl ?_
  refine C.iconst (v := (1 : Int32)) at_113 (by first | rfl | decide) ?_
  refine C.iand at_114 ?_
  have J15 : ∀ (mn : Int64), (0 ≤ mn.toInt ∧ mn.toInt ≤ z.toInt) → C.W h14 [a2] 1 12 (mkF K.m 141 #[.val (.int p0), .val (.int p1), .val (.int p2), .val (.int p3), .val (.int p4), .val (.long a), .second, .val (.int n), .val (.ref a2), .val (.long z), .second, .val (.long mn), .second, .unset, .unset, .unset, .unset] []) := by
    intro mn j15_0
    refine C.iload at_141 rfl ?_
    refine C.iconst (v := (2 : Int32)) at_143 (by first | rfl | decide) ?_
    refine C.iand at_144 ?_
    have J16 : ∀ (mx : Int64), (z.toInt ≤ mx.toInt ∧ mx.toInt < 2147483648) → C.W h14 [a2] 1 12 (mkF K.m 188 #[.val (.int p0), .val (.int p1), .val (.int p2), .val (.int p3), .val (.int p4), .val (.long a), .second, .val (.int n), .val (.ref a2), .val (.long z), .second, .val (.long mn), .second, .val (.long mx), .second, .unset, .unset] []) := by
      intro mx j16_0
      have l2m : mn.toInt32.toInt = mn.toInt := l2i_int (by omega) (by omega)
      have l2x : mx.toInt32.toInt = mx.toInt := l2i_int (by omega) (by omega)
      refine C.lload at_188 rfl ?_
      refine C.iload at_190 rfl ?_
      refine C.callS [.long a, .int n] [] 0 (B.1 _ (List.mem_of_getElem? (i := 15) rfl)) (B.1 _ (List.mem_of_getElem? (i := 16) rfl)) (B.1 _ (List.mem_of_getElem? (i := 17) rfl)) (B.1 _ (List.mem_of_getElem? (i := 18) rfl)) (by decide) pd__28_JI_29_Ljava_2f_lang_2f_String_3b_ rfl id (c_text B (u := a) (n := n) ha.1 hn) at_192 rfl rfl rfl (by decide) (by decide) (by decide) (by decide) all0 fun v17 h17 z17 K17 q17 => ?_
      obtain ⟨x, cs, rfl, S, hl, hd, hv⟩ := q17
      show C.W h17 [a2] 4 38 (mkF K.m 195 #[.val (.int p0), .val (.int p1), .val (.int p2), .val (.int p3), .val (.int p4), .val (.long a), .second, .val (.int n), .val (.ref a2), .val (.long z), .second, .val (.long mn), .second, .val (.long mx), .second, .unset, .unset] [.ref x])
      rw [← eP, ← ez] at hv
      have lS := S.lt
      refine C.astore #[.val (.int p0), .val (.int p1), .val (.int p2), .val (.int p3), .val (.int p4), .val (.long a), .second, .val (.int n), .val (.ref a2), .val (.long z), .second, .val (.long mn), .second, .val (.long mx), .second, .val (.ref x), .unset] at_195 rfl rfl ?_
      refine C.aload at_197 rfl rfl ?_
      refine C.ldcO trivial 52 (B.1 _ (List.mem_of_getElem? (i := 52) rfl)) (sA B) (by decide) (by decide) at_199 (by decide) (by decide) fun h18 s18 z18 K18 => ?_
      show C.W h18 [a2] 6 94 (mkF K.m 201 #[.val (.int p0), .val (.int p1), .val (.int p2), .val (.int p3), .val (.int p4), .val (.long a), .second, .val (.int n), .val (.ref a2), .val (.long z), .second, .val (.long mn), .second, .val (.long mx), .second, .val (.ref x), .unset] [.ref s18, .ref x])
      refine C.lload at_201 rfl ?_
      refine C.l2i at_203 ?_
      refine C.lload at_204 rfl ?_
      refine C.l2i at_206 ?_
      have S_19 := (S.keep K18 all0)
      refine C.callS [.ref x, .ref s18, .int mn.toInt32, .int mx.toInt32] [] 0 (B.1 _ (List.mem_of_getElem? (i := 55) rfl)) (B.1 _ (List.mem_of_getElem? (i := 56) rfl)) (B.1 _ (List.mem_of_getElem? (i := 57) rfl)) (B.1 _ (List.mem_of_getElem? (i := 58) rfl)) (by decide) pd__28_Ljava_2f_lang_2f_String_3b_Ljava_2f_lang_2f_String_3b_II_29_I rfl id (c_parse B S_19 (by omega) hd (by omega) (by omega)) at_207 rfl rfl rfl (by decide) (by decide) (by decide) (by decide) all0 fun v20 h20 z20 K20 q20 => ?_
      obtain ⟨r, rfl, hr, rfl⟩ := q20
      show C.W h18 [a2] 6 94 (mkF K.m 210 #[.val (.int p0), .val (.int p1), .val (.int p2), .val (.int p3), .val (.int p4), .val (.long a), .second, .val (.int n), .val (.ref a2), .val (.long z), .second, .val (.long mn), .second, .val (.long mx), .second, .val (.ref x), .unset] [.int r])
      refine C.istore #[.val (.int p0), .val (.int p1), .val (.int p2), .val (.int p3), .val (.int p4), .val (.long a), .second, .val (.int n), .val (.ref a2), .val (.long z), .second, .val (.long mn), .second, .val (.long mx), .second, .val (.ref x), .val (.int r)] at_210 rfl ?_
      refine C.iload at_212 rfl ?_
      refine C.i2l at_214 ?_
      refine C.lload at_215 rfl ?_
      refine C.lcmp at_217 ?_
      have q := (c_lcmp r.toInt64 z).2.1 (by rw [c_i2l]; omega)
      refine C.ifc_ne 225 at_218 (by decide) (by decide) (fun q21 => ?_) (fun q21 => ?_)
      · exfalso; exact q21 q
      · refine C.iconst (v := (1 : Int32)) at_221 (by first | rfl | decide) ?_
        refine C.goto 226 at_222 (by decide) (by decide) ?_
        exact C.ireturn (t := .boolean) rfl (by simp) rfl at_226 (by decide) (by decide) rfl
    refine C.ifc_eq 155 at_145 (by decide) (by decide) (fun q22 => ?_) (fun q22 => ?_)
    · refine C.iload at_155 rfl ?_
      refine C.iconst (v := (4 : Int32)) at_157 (by first | rfl | decide) ?_
      refine C.iand at_158 ?_
      refine C.ifc_eq 170 at_159 (by decide) (by decide) (fun q23 => ?_) (fun q23 => ?_)
      · have lz : (2147483648 : Int64) - z ≠ 0 := nz64 (by rw [lsub_int (by rw [show (2147483648 : Int64).toInt = 2147483648 by decide]; omega) (by rw [show (2147483648 : Int64).toInt = 2147483648 by decide]; omega), show (2147483648 : Int64).toInt = 2147483648 by decide]; omega)
        refine C.lload at_170 rfl ?_
        refine C.iloadN at_172 rfl ?_
        refine C.i2l at_173 ?_
        refine C.ldc2Long (v := (2147483647 : Int64)) (B.1 _ (List.mem_of_getElem? (i := 0) rfl)) at_174 ?_
        refine C.land at_177 ?_
        refine C.ldc2Long (v := (2147483648 : Int64)) (B.1 _ (List.mem_of_getElem? (i := 14) rfl)) at_178 ?_
        refine C.lload at_181 rfl ?_
        refine C.lsub at_183 ?_
        refine C.lrem (by assumption) at_184 ?_
        refine C.ladd at_185 ?_
        refine C.lstore #[.val (.int p0), .val (.int p1), .val (.int p2), .val (.int p3), .val (.int p4), .val (.long a), .second, .val (.int n), .val (.ref a2), .val (.long z), .second, .val (.long mn), .second, .val (.long (z + ((p3.toInt64 &&& (2147483647 : Int64)) % ((2147483648 : Int64) - z)))), .second, .unset, .unset] at_186 rfl ?_
        exact J16 _ (max_ok hz.1 hz1)
      · refine C.ldc2Long (v := (2147483647 : Int64)) (B.1 _ (List.mem_of_getElem? (i := 0) rfl)) at_162 ?_
        refine C.lstore #[.val (.int p0), .val (.int p1), .val (.int p2), .val (.int p3), .val (.int p4), .val (.long a), .second, .val (.int n), .val (.ref a2), .val (.long z), .second, .val (.long mn), .second, .val (.long (2147483647 : Int64)), .second, .unset, .unset] at_165 rfl ?_
        refine C.goto 188 at_167 (by decide) (by decide) ?_
        exact J16 _ ⟨by rw [show (2147483647 : Int64).toInt = 2147483647 by decide]; omega, by decide⟩
    · refine C.lload at_148 rfl ?_
      refine C.lstore #[.val (.int p0), .val (.int p1), .val (.int p2), .val (.int p3), .val (.int p4), .val (.long a), .second, .val (.int n), .val (.ref a2), .val (.long z), .second, .val (.long mn), .second, .val (.long z), .second, .unset, .unset] at_150 rfl ?_
      refine C.goto 188 at_152 (by decide) (by decide) ?_
      exact J16 _ ⟨Int.le_refl _, hz1⟩
  refine C.ifc_eq 125 at_115 (by decide) (by decide) (fun q24 => ?_) (fun q24 => ?_)
  · have lz : z + (1 : Int64) ≠ 0 := nz64 (by rw [ladd_int (by rw [show (1 : Int64).toInt = 1 by decide]; omega) (by rw [show (1 : Int64).toInt = 1 by decide]; omega), show (1 : Int64).toInt = 1 by decide]; omega)
    refine C.lload at_125 rfl ?_
    refine C.iloadN at_127 rfl ?_
    refine C.i2l at_128 ?_
    refine C.ldc2Long (v := (2147483647 : Int64)) (B.1 _ (List.mem_of_getElem? (i := 0) rfl)) at_129 ?_
    refine C.land at_132 ?_
    refine C.lload at_133 rfl ?_
    refine C.lconst (v := (1 : Int64)) at_135 (by first | rfl | decide) ?_
    refine C.ladd at_136 ?_
    refine C.lrem (by assumption) at_137 ?_
    refine C.lsub at_138 ?_
    refine C.lstore #[.val (.int p0), .val (.int p1), .val (.int p2), .val (.int p3), .val (.int p4), .val (.long a), .second, .val (.int n), .val (.ref a2), .val (.long z), .second, .val (.long (z - ((p2.toInt64 &&& (2147483647 : Int64)) % (z + (1 : Int64))))), .second, .unset, .unset, .unset, .unset] at_139 rfl ?_
    exact J15 _ (min_ok hz.1 hz1)
  · refine C.lload at_118 rfl ?_
    refine C.lstore #[.val (.int p0), .val (.int p1), .val (.int p2), .val (.int p3), .val (.int p4), .val (.long a), .second, .val (.int n), .val (.ref a2), .val (.long z), .second, .val (.long z), .second, .unset, .unset, .unset, .unset] at_120 rfl ?_
    refine C.goto 141 at_122 (by decide) (by decide) ?_
    exact J15 _ ⟨hz.1, Int.le_refl _⟩
set_option maxRecDepth 65536 in
set_option maxHeartbeats 40000000 in
theorem comes_1 {Post : Tables → Env → Array Value → State → Outcome → State → Prop} (hpost : ∀ tb e args s v u, (limb_1_1.after args s (.returned v) u = true ∧ limb_1_2.after args s (.returned v) u = true ∧ True) → ReturnedEndW s (.returned v) u (Jvm.fieldLocs frame_1_writes args s ++ Jvm.arrayLocs frame_1_arrays args s ++ Jvm.staticLocs frame_1_statics s) 24 1216 → Post tb e args s (.returned v) u) :
    ArmFor flags0 classFile x code maxLocals ret World_1 tables_1 room_1 Calls_1 rest_1 Pre_1 Post := by
  intro l hfl _ _ p e ha hc hk s m args below hf hA hF happ hP
  obtain ⟨hcalls, hrest, hpre⟩ := hP
  obtain ⟨-, -, -, hnamed, -, -, -, hat⟩ := (Spec.applies_iff hf).mp happ
  obtain ⟨hg, hn⟩ := and_e (Cond.before_iff.mp (show (Jvm.Cond.and given_1 narrow_1).before args s = true from hpre))
  obtain ⟨hct, r0⟩ := and_e hg
  obtain ⟨w0, w1, w2, w3, w4, rfl⟩ : ∃ w0 w1 w2 w3 w4 : Value, args = #[w0, w1, w2, w3, w4] := by
    have hs : args.size = 5 := by simpa [Cond.value, given_1] using hct
    obtain ⟨L⟩ := args
    match L, hs with
    | [w0, w1, w2, w3, w4], _ => exact ⟨w0, w1, w2, w3, w4, rfl⟩
  have hw := fun d (hd : d ∈ tables_1) => atoms_spec (ws := Jvm.Cond.code x code maxLocals ret :: tables_1) hat d (List.mem_cons_of_mem _ hd)
  obtain ⟨hsets, hown0⟩ := atoms_of _ (rest_1_c_eq ▸ (show rest_1_c.before _ s = true from hrest))
  have n3 := not_v (Cond.before_iff.mp (hsets _ (List.mem_of_getElem? (i := 2) rfl)))
  obtain ⟨zc, ezc⟩ := is_v (Cond.before_iff.mp (hsets _ (List.mem_of_getElem? (i := 1) rfl)))
  have Szc : Sta s s.heap "java/lang/String" "COMPACT_STRINGS" "Z" (.int zc) := Sta.start ezc (Or.inl (hsets _ (List.mem_of_getElem? (i := 0) rfl)))
  have czc : ¬ (zc = (0 : Int32)) := gotF (Cond.eq_ints ezc (Term.int_eval (0))) n3
  obtain ⟨fm, efm, rfm⟩ := isR_v (Cond.before_iff.mp (hsets _ (List.mem_of_getElem? (i := 8) rfl)))
  have Sfm : Sta s s.heap "jdk/internal/util/Preconditions" "SIOOBE_FORMATTER" "Ljava/util/function/BiFunction;" fm := Sta.start efm (Or.inl (hsets _ (List.mem_of_getElem? (i := 7) rfl)))
  obtain ⟨g0, r1⟩ := and_e r0
  obtain ⟨i0, e0⟩ := is_v g0
  obtain rfl : w0 = (.int i0) := Option.some.inj e0
  obtain ⟨g1, r2⟩ := and_e r1
  obtain ⟨i1, e1⟩ := is_v g1
  obtain rfl : w1 = (.int i1) := Option.some.inj e1
  obtain ⟨g2, r3⟩ := and_e r2
  obtain ⟨i2, e2⟩ := is_v g2
  obtain rfl : w2 = (.int i2) := Option.some.inj e2
  obtain ⟨g3, r4⟩ := and_e r3
  obtain ⟨i3, e3⟩ := is_v g3
  obtain rfl : w3 = (.int i3) := Option.some.inj e3
  obtain ⟨i4, e4⟩ := is_v r4
  obtain rfl : w4 = (.int i4) := Option.some.inj e4
  have B : Base s _ := ⟨hw, ⟨zc, Szc, czc⟩, ⟨fm, Sfm, rfm⟩⟩
  have hCH : CHv s EL s.vm s.heap := fun p hp => nomatch hp
  obtain ⟨n, o, h1, h2, h3, v, L, rfl, ⟨hq, -, N⟩, -, hR⟩ := m_law (l := l) (n0 := s.heap.size) (h := s.heap) (p0 := i0) (p1 := i1) (p2 := i2) (p3 := i3) (p4 := i4) B p e ha hc hk s m _ below hf ((Spec.applies_iff_loose hf).mp happ).1 ⟨rfl, State.Warmed39.refl s, rfl, hCH, Old.start s, fun _ q => nomatch q⟩ trivial
  obtain rfl := hq
  exact ⟨n, _, h1, h2, h3, hpost _ _ _ _ _ _ ⟨Cond.after_iff.mpr rfl, Cond.after_iff.mpr (eq_i res_at (Term.int_eval (1)) rfl), trivial⟩ ⟨hR.1, hR.2.1, hR.2.2.1, (hR.2.2.2.sift fun y hy => Or.inr (N y hy)).mono (by decide) (by decide)⟩⟩
theorem main_1_1 : Claimed_1_1 := comes_1 fun _ _ _ _ _ _ h hF => ⟨h.1, hF⟩
theorem main_1_2 : Claimed_1_2 := comes_1 fun _ _ _ _ _ _ h hF => ⟨h.2.1, hF⟩
end Jvm.Pilot.@@N@@
namespace Jvm.Pilot.@@N@@
open Jvm Jvm.ClassFile Sem Op Lib Jvm.Free Jvm.Stand Jvm.Pilot.@@N@@.Jvm.D
/-! MADE BY PROGRAM (witnessworld.py) out of the Statement's table words and the real class files: 22 classes; the members and pool entries that the words name. The judged class is class 1, her method 3. -/
namespace start1
open Jvm.ClassFile
def u (s : String) : CpInfo := .utf8 (stringToUtf16 s)
/-- a pool by its gaps: so many unusable entries, then the entry; so many at the end -/
def gap : Nat → List CpInfo → List CpInfo
  | 0, r => r
  | n + 1, r => .unusable :: gap n r
def poolList (es : List (Nat × CpInfo)) (last : Nat) : List CpInfo := es.foldr (fun e r => gap e.1 (e.2 :: r)) (gap last [])
def pool (es : List (Nat × CpInfo)) (last : Nat) : Array CpInfo := ⟨poolList es last⟩
def fileOf (pool : Array CpInfo) (this : Nat) (attrs : Array Attribute := #[]) (ms : Array MethodInfo := #[]) (fl : Nat := 33) (sup : Nat := 0) (ifs : Array Nat := #[]) (fds : Array FieldInfo := #[]) : ClassFile where
  minorVersion := 0
  majorVersion := 65
  constantPool := pool
  accessFlags := fl
  thisClass := this
  superClass := sup
  interfaces := ifs
  fields := fds
  methods := ms
  attributes := attrs
def plain (name : String) (sup : Option ClassId) : Class where
  name := name
  kind := .ordinary
  loader := none
  accessFlags := 33
  super := sup
  interfaces := #[]
  cf := none
  fields := #[]
  methods := #[]
  instanceTypes := #[]
  staticTypes := #[]
  resolved := #[]
  callSites := []
  init := .initialized
  statics := none
  mirror := none

def pool0 : Array CpInfo := pool [(5, u "<init>"), (0, u "()V"), (1, .class_ 10), (1, u "java/lang/Object")] 113

def k0c0 : Code := { maxStack := 0, maxLocals := 1, code := object_method_1_code, exceptionTable := #[], attributes := #[] }
def k0m0 : Method := { name := "<init>", desc := "()V", sig := { parameters := [], returnType := none }, accessFlags := 1, code := some k0c0 }
/-- java/lang/Object -/
def k0 : Class := { plain "java/lang/Object" none with
  accessFlags := 33
  interfaces := #[]
  cf := some (fileOf pool0 8 #[] #[{ accessFlags := 1, nameIndex := 5, descriptorIndex := 6, attributes := #[] }] 33 0 #[] #[])
  fields := #[]
  methods := #[k0m0]
  instanceTypes := #[]
  staticTypes := #[]
  resolved := Array.replicate 124 none
  statics := none }

def pool1 : Array CpInfo := pool [(2, .class_ 4), (1, u "java/lang/Object"), (0, u "<init>"), (0, u "()V"), (0, .long 10), (1, .class_ 10), (0, u "java/lang/String"), (0, .methodref 12 13), (0, .class_ 14), (0, .nameAndType 15 16), (0, u "com/example/quire/quire/catalogue/WholeNumberParsePinLaw"), (0, u "ch"), (0, u "(JJ)C"), (0, .methodref 9 18), (0, .nameAndType 5 19), (0, u "([C)V"), (0, .long 100), (1, .long 1000), (1, .long 10000), (1, .long 100000), (1, .long 1000000), (1, .long 10000000), (1, .long 100000000), (1, .long 1000000000), (1, .long 10000000000), (1, .long 2147483647), (1, .integer 2147483647), (0, .long 100000000000), (1, .long 2147483648), (1, .methodref 12 46), (0, .nameAndType 47 48), (0, u "text"), (0, u "(JI)Ljava/lang/String;"), (0, .string 50), (0, u "record number"), (0, .methodref 52 53), (0, .class_ 54), (0, .nameAndType 55 56), (0, u "com/example/quire/quire/catalogue/WholeNumber"), (0, u "parse"), (0, u "(Ljava/lang/String;Ljava/lang/String;II)I"), (3, u "law"), (0, u "(IIIII)Z")] 4

def k1m0 : Method := { name := "<init>", desc := "()V", sig := { parameters := [], returnType := none }, accessFlags := 2, code := none }
def k1c1 : Code := { maxStack := 5, maxLocals := 4, code := method_2_code, exceptionTable := #[], attributes := #[] }
def k1m1 : Method := { name := "ch", desc := "(JJ)C", sig := { parameters := [.long, .long], returnType := some .char }, accessFlags := 10, code := some k1c1 }
def k1c2 : Code := { maxStack := 9, maxLocals := 3, code := method_3_code, exceptionTable := #[], attributes := #[] }
def k1m2 : Method := { name := "text", desc := "(JI)Ljava/lang/String;", sig := { parameters := [.long, .int], returnType := some (.object "java/lang/String") }, accessFlags := 10, code := some k1c2 }
def k1c3 : Code := { maxStack := 8, maxLocals := 17, code := code, exceptionTable := #[], attributes := #[] }
def k1m3 : Method := { name := "law", desc := "(IIIII)Z", sig := { parameters := [.int, .int, .int, .int, .int], returnType := some .boolean }, accessFlags := 9, code := some k1c3 }
/-- com/example/quire/quire/catalogue/WholeNumberParsePinLaw -/
def k1 : Class := { plain "com/example/quire/quire/catalogue/WholeNumberParsePinLaw" (some 0) with
  accessFlags := 49
  interfaces := #[]
  cf := some (fileOf pool1 12 #[] #[{ accessFlags := 2, nameIndex := 5, descriptorIndex := 6, attributes := #[] }, { accessFlags := 10, nameIndex := 15, descriptorIndex := 16, attributes := #[] }, { accessFlags := 10, nameIndex := 47, descriptorIndex := 48, attributes := #[] }, { accessFlags := 9, nameIndex := 60, descriptorIndex := 61, attributes := #[] }] 49 2 #[] #[])
  fields := #[]
  methods := #[k1m0, k1m1, k1m2, k1m3]
  instanceTypes := #[]
  staticTypes := #[]
  resolved := Array.replicate 66 none
  statics := none }

def pool2 : Array CpInfo := pool [(1, .class_ 2), (0, u "java/io/Serializable"), (0, .class_ 4), (0, u "java/lang/Object")] 2

/-- java/io/Serializable -/
def k2 : Class := { plain "java/io/Serializable" (some 0) with
  accessFlags := 1537
  interfaces := #[]
  cf := some (fileOf pool2 1 #[] #[] 1537 3 #[] #[])
  fields := #[]
  methods := #[]
  instanceTypes := #[]
  staticTypes := #[]
  resolved := Array.replicate 7 none
  statics := none }

def pool3 : Array CpInfo := pool [(1, .class_ 2), (0, u "java/lang/Comparable"), (0, .class_ 4), (0, u "java/lang/Object")] 7

/-- java/lang/Comparable -/
def k3 : Class := { plain "java/lang/Comparable" (some 0) with
  accessFlags := 1537
  interfaces := #[]
  cf := some (fileOf pool3 1 #[] #[] 1537 3 #[] #[])
  fields := #[]
  methods := #[]
  instanceTypes := #[]
  staticTypes := #[]
  resolved := Array.replicate 12 none
  statics := none }

def pool4 : Array CpInfo := pool [(2, .class_ 4), (1, u "java/lang/CharSequence"), (42, .class_ 48), (0, u "java/lang/CharSequence$1CodePointIterator"), (10, .class_ 60), (0, u "java/lang/CharSequence$1CharIterator"), (5, .class_ 67), (0, u "java/lang/Object")] 63

/-- java/lang/CharSequence -/
def k4 : Class := { plain "java/lang/CharSequence" (some 0) with
  accessFlags := 1537
  interfaces := #[]
  cf := some (fileOf pool4 2 #[.nestMembers #[47, 59]] #[] 1537 66 #[] #[])
  fields := #[]
  methods := #[]
  instanceTypes := #[]
  staticTypes := #[]
  resolved := Array.replicate 131 none
  statics := none }

def pool5 : Array CpInfo := pool [(1, .class_ 2), (0, u "java/lang/constant/Constable"), (0, .class_ 4), (0, u "java/lang/Object")] 6

/-- java/lang/constant/Constable -/
def k5 : Class := { plain "java/lang/constant/Constable" (some 0) with
  accessFlags := 1537
  interfaces := #[]
  cf := some (fileOf pool5 1 #[] #[] 1537 3 #[] #[])
  fields := #[]
  methods := #[]
  instanceTypes := #[]
  staticTypes := #[]
  resolved := Array.replicate 11 none
  statics := none }

def pool6 : Array CpInfo := pool [(1, .class_ 2), (0, u "java/lang/constant/ConstantDesc"), (0, .class_ 4), (0, u "java/lang/Object")] 32

/-- java/lang/constant/ConstantDesc -/
def k6 : Class := { plain "java/lang/constant/ConstantDesc" (some 0) with
  accessFlags := 1537
  interfaces := #[]
  cf := some (fileOf pool6 1 #[] #[] 1537 3 #[] #[])
  fields := #[]
  methods := #[]
  instanceTypes := #[]
  staticTypes := #[]
  resolved := Array.replicate 37 none
  statics := none }

def pool7 : Array CpInfo := pool [(1, .methodref 2 3), (0, .class_ 4), (0, .nameAndType 5 6), (0, u "java/lang/Object"), (0, u "<init>"), (0, u "()V"), (2, .fieldref 10 11), (0, .class_ 12), (0, .nameAndType 13 14), (0, u "java/lang/String"), (0, u "value"), (0, u "[B"), (0, .fieldref 10 16), (0, .nameAndType 17 18), (0, u "coder"), (0, u "B"), (2, u "hash"), (0, u "I"), (2, u "hashIsZero"), (0, u "Z"), (0, .methodref 10 28), (0, .nameAndType 5 29), (0, u "([CIILjava/lang/Void;)V"), (8, .fieldref 10 39), (0, .nameAndType 40 26), (0, u "COMPACT_STRINGS"), (1, .class_ 44), (1, u "java/lang/StringUTF16"), (0, u "compress"), (1, .methodref 42 48), (0, .nameAndType 49 50), (0, u "coderFromArrayLen"), (0, u "([BI)B"), (56, .class_ 109), (1, u "java/lang/StringLatin1"), (32, u "()Z"), (34, .methodref 42 178), (0, .nameAndType 45 179), (0, u "([CII)[B"), (154, u "()I"), (0, .methodref 10 336), (0, .nameAndType 17 337), (0, u "()B"), (25, u "([BI)C"), (27, u "(II)V"), (35, u "(I)C"), (64, .methodref 10 493), (0, .nameAndType 494 142), (0, u "isLatin1"), (0, .methodref 107 496), (0, .nameAndType 497 363), (0, u "charAt"), (3, u "checkIndex"), (5, u "length"), (67, .class_ 576), (0, u "java/lang/CharSequence"), (22, u "CASE_INSENSITIVE_ORDER"), (0, u "Ljava/util/Comparator;"), (91, u "isEmpty"), (317, u "([C)V"), (42, .fieldref 1054 1055), (0, .class_ 1056), (0, .nameAndType 1057 1058), (0, u "jdk/internal/util/Preconditions"), (0, u "SIOOBE_FORMATTER"), (0, u "Ljava/util/function/BiFunction;"), (0, .methodref 1054 1060), (0, .nameAndType 501 1061), (0, u "(IILjava/util/function/BiFunction;)I"), (39, u "serialPersistentFields"), (0, u "[Ljava/io/ObjectStreamField;"), (0, .class_ 1104), (0, u "java/lang/String$CaseInsensitiveComparator"), (1, .class_ 1107), (0, u "java/io/Serializable"), (0, .class_ 1109), (0, u "java/lang/Comparable"), (0, .class_ 1111), (0, u "java/lang/constant/Constable"), (0, .class_ 1113), (0, u "java/lang/constant/ConstantDesc"), (2, u "serialVersionUID"), (0, u "J"), (3, u "REPL"), (0, u "C"), (2, u "LATIN1"), (1, u "UTF16")] 323

def k7m0 : Method := { name := "<init>", desc := "()V", sig := { parameters := [], returnType := none }, accessFlags := 1, code := none }
def k7c1 : Code := { maxStack := 5, maxLocals := 2, code := jdk_42_method_3_code, exceptionTable := #[], attributes := #[] }
def k7m1 : Method := { name := "<init>", desc := "([C)V", sig := { parameters := [(.array .char)], returnType := none }, accessFlags := 1, code := some k7c1 }
def k7c2 : Code := { maxStack := 2, maxLocals := 1, code := jdk_42_method_54_code, exceptionTable := #[], attributes := #[] }
def k7m2 : Method := { name := "length", desc := "()I", sig := { parameters := [], returnType := some .int }, accessFlags := 1, code := some k7c2 }
def k7c3 : Code := { maxStack := 1, maxLocals := 1, code := jdk_42_method_55_code, exceptionTable := #[], attributes := #[] }
def k7m3 : Method := { name := "isEmpty", desc := "()Z", sig := { parameters := [], returnType := some .boolean }, accessFlags := 1, code := some k7c3 }
def k7c4 : Code := { maxStack := 2, maxLocals := 2, code := jdk_42_method_56_code, exceptionTable := #[], attributes := #[] }
def k7m4 : Method := { name := "charAt", desc := "(I)C", sig := { parameters := [.int], returnType := some .char }, accessFlags := 1, code := some k7c4 }
def k7c5 : Code := { maxStack := 4, maxLocals := 6, code := jdk_42_method_149_code, exceptionTable := #[], attributes := #[] }
def k7m5 : Method := { name := "<init>", desc := "([CIILjava/lang/Void;)V", sig := { parameters := [(.array .char), .int, .int, (.object "java/lang/Void")], returnType := none }, accessFlags := 2, code := some k7c5 }
def k7c6 : Code := { maxStack := 1, maxLocals := 1, code := jdk_42_method_152_code, exceptionTable := #[], attributes := #[] }
def k7m6 : Method := { name := "coder", desc := "()B", sig := { parameters := [], returnType := some .byte }, accessFlags := 0, code := some k7c6 }
def k7c7 : Code := { maxStack := 1, maxLocals := 1, code := jdk_42_method_154_code, exceptionTable := #[], attributes := #[] }
def k7m7 : Method := { name := "isLatin1", desc := "()Z", sig := { parameters := [], returnType := some .boolean }, accessFlags := 0, code := some k7c7 }
def k7c8 : Code := { maxStack := 3, maxLocals := 2, code := jdk_42_method_155_code, exceptionTable := #[], attributes := #[] }
def k7m8 : Method := { name := "checkIndex", desc := "(II)V", sig := { parameters := [.int, .int], returnType := none }, accessFlags := 8, code := some k7c8 }
/-- java/lang/String -/
def k7 : Class := { plain "java/lang/String" (some 0) with
  accessFlags := 49
  interfaces := #[2, 3, 4, 5, 6]
  cf := some (fileOf pool7 10 #[.nestMembers #[1103]] #[{ accessFlags := 1, nameIndex := 5, descriptorIndex := 6, attributes := #[] }, { accessFlags := 1, nameIndex := 5, descriptorIndex := 1010, attributes := #[] }, { accessFlags := 1, nameIndex := 507, descriptorIndex := 334, attributes := #[] }, { accessFlags := 1, nameIndex := 692, descriptorIndex := 142, attributes := #[] }, { accessFlags := 1, nameIndex := 497, descriptorIndex := 427, attributes := #[] }, { accessFlags := 2, nameIndex := 5, descriptorIndex := 29, attributes := #[] }, { accessFlags := 0, nameIndex := 17, descriptorIndex := 337, attributes := #[] }, { accessFlags := 0, nameIndex := 494, descriptorIndex := 142, attributes := #[] }, { accessFlags := 8, nameIndex := 501, descriptorIndex := 391, attributes := #[] }] 49 2 #[1106, 1108, 575, 1110, 1112] #[{ accessFlags := 18, nameIndex := 13, descriptorIndex := 14, attributes := #[] }, { accessFlags := 18, nameIndex := 17, descriptorIndex := 18, attributes := #[] }, { accessFlags := 2, nameIndex := 21, descriptorIndex := 22, attributes := #[] }, { accessFlags := 2, nameIndex := 25, descriptorIndex := 26, attributes := #[] }, { accessFlags := 26, nameIndex := 1116, descriptorIndex := 1117, attributes := #[] }, { accessFlags := 24, nameIndex := 40, descriptorIndex := 26, attributes := #[] }, { accessFlags := 26, nameIndex := 1101, descriptorIndex := 1102, attributes := #[] }, { accessFlags := 26, nameIndex := 1121, descriptorIndex := 1122, attributes := #[] }, { accessFlags := 25, nameIndex := 599, descriptorIndex := 600, attributes := #[] }, { accessFlags := 24, nameIndex := 1125, descriptorIndex := 18, attributes := #[] }, { accessFlags := 24, nameIndex := 1127, descriptorIndex := 18, attributes := #[] }])
  fields := #[{ name := "value", type := (.array .byte), accessFlags := 18, slot := 0, constantValue := 0 }, { name := "coder", type := .byte, accessFlags := 18, slot := 1, constantValue := 0 }, { name := "hash", type := .int, accessFlags := 2, slot := 2, constantValue := 0 }, { name := "hashIsZero", type := .boolean, accessFlags := 2, slot := 3, constantValue := 0 }, { name := "serialVersionUID", type := .long, accessFlags := 26, slot := 0, constantValue := 0 }, { name := "COMPACT_STRINGS", type := .boolean, accessFlags := 24, slot := 1, constantValue := 0 }, { name := "serialPersistentFields", type := (.array (.object "java/io/ObjectStreamField")), accessFlags := 26, slot := 2, constantValue := 0 }, { name := "REPL", type := .char, accessFlags := 26, slot := 3, constantValue := 0 }, { name := "CASE_INSENSITIVE_ORDER", type := (.object "java/util/Comparator"), accessFlags := 25, slot := 4, constantValue := 0 }, { name := "LATIN1", type := .byte, accessFlags := 24, slot := 5, constantValue := 0 }, { name := "UTF16", type := .byte, accessFlags := 24, slot := 6, constantValue := 0 }]
  methods := #[k7m0, k7m1, k7m2, k7m3, k7m4, k7m5, k7m6, k7m7, k7m8]
  instanceTypes := #[(.array .byte), .byte, .int, .boolean]
  staticTypes := #[.long, .boolean, (.array (.object "java/io/ObjectStreamField")), .char, (.object "java/util/Comparator"), .byte, .byte]
  resolved := Array.replicate 1451 none
  statics := some 0 }

def pool8 : Array CpInfo := pool [(6, .class_ 8), (1, u "java/lang/Object"), (0, u "<init>"), (0, u "()V"), (1, .class_ 14), (1, u "java/lang/StringUTF16"), (31, u "$assertionsDisabled"), (0, u "Z"), (13, u "HI_BYTE_SHIFT"), (0, u "I"), (2, u "LO_BYTE_SHIFT"), (49, .methodref 12 116), (0, .nameAndType 117 118), (0, u "compress"), (0, u "([CI[BII)I"), (3, u "([CII)[B"), (138, u "coderFromArrayLen"), (0, u "([BI)B"), (106, .class_ 371), (1, u "java/lang/StringUTF16$LinesSpliterator"), (58, u "MAX_LENGTH"), (196, .class_ 628), (0, u "java/lang/StringUTF16$CodePointsSpliterator"), (0, .class_ 630), (0, u "java/lang/StringUTF16$CharsSpliterator")] 4

def k8m0 : Method := { name := "<init>", desc := "()V", sig := { parameters := [], returnType := none }, accessFlags := 0, code := none }
def k8c1 : Code := { maxStack := 2, maxLocals := 2, code := jdk_52_method_15_code, exceptionTable := #[], attributes := #[] }
def k8m1 : Method := { name := "coderFromArrayLen", desc := "([BI)B", sig := { parameters := [(.array .byte), .int], returnType := some .byte }, accessFlags := 8, code := some k8c1 }
def k8c2 : Code := { maxStack := 5, maxLocals := 6, code := jdk_52_method_16_code, exceptionTable := #[], attributes := #[] }
def k8m2 : Method := { name := "compress", desc := "([CII)[B", sig := { parameters := [(.array .char), .int, .int], returnType := some (.array .byte) }, accessFlags := 9, code := some k8c2 }
def k8c3 : Code := { maxStack := 3, maxLocals := 7, code := jdk_52_method_21_code, exceptionTable := #[], attributes := #[] }
def k8m3 : Method := { name := "compress", desc := "([CI[BII)I", sig := { parameters := [(.array .char), .int, (.array .byte), .int, .int], returnType := some .int }, accessFlags := 9, code := some k8c3 }
/-- java/lang/StringUTF16 -/
def k8 : Class := { plain "java/lang/StringUTF16" (some 0) with
  accessFlags := 48
  interfaces := #[]
  cf := some (fileOf pool8 12 #[.nestMembers #[627, 629, 369]] #[{ accessFlags := 0, nameIndex := 9, descriptorIndex := 10, attributes := #[] }, { accessFlags := 8, nameIndex := 261, descriptorIndex := 262, attributes := #[] }, { accessFlags := 9, nameIndex := 117, descriptorIndex := 122, attributes := #[] }, { accessFlags := 9, nameIndex := 117, descriptorIndex := 118, attributes := #[] }] 48 6 #[] #[{ accessFlags := 26, nameIndex := 61, descriptorIndex := 62, attributes := #[] }, { accessFlags := 26, nameIndex := 65, descriptorIndex := 62, attributes := #[] }, { accessFlags := 24, nameIndex := 430, descriptorIndex := 62, attributes := #[] }, { accessFlags := 4120, nameIndex := 46, descriptorIndex := 47, attributes := #[] }])
  fields := #[{ name := "HI_BYTE_SHIFT", type := .int, accessFlags := 26, slot := 0, constantValue := 0 }, { name := "LO_BYTE_SHIFT", type := .int, accessFlags := 26, slot := 1, constantValue := 0 }, { name := "MAX_LENGTH", type := .int, accessFlags := 24, slot := 2, constantValue := 0 }, { name := "$assertionsDisabled", type := .boolean, accessFlags := 4120, slot := 3, constantValue := 0 }]
  methods := #[k8m0, k8m1, k8m2, k8m3]
  instanceTypes := #[]
  staticTypes := #[.int, .int, .int, .boolean]
  resolved := Array.replicate 635 none
  statics := none }

def pool9 : Array CpInfo := pool [(4, .class_ 6), (1, u "java/lang/Object"), (0, u "<init>"), (0, u "()V"), (0, .class_ 10), (0, u "com/example/quire/quire/catalogue/WholeNumber"), (3, u "parse"), (0, u "(Ljava/lang/String;Ljava/lang/String;II)I"), (0, .methodref 17 18), (0, .class_ 19), (0, .nameAndType 20 21), (0, u "java/lang/String"), (0, u "isEmpty"), (0, u "()Z"), (4, .methodref 17 27), (0, .nameAndType 28 29), (0, u "length"), (0, u "()I"), (0, .methodref 17 31), (0, .nameAndType 32 33), (0, u "charAt"), (0, u "(I)C"), (0, .long 10), (10, u "MAX"), (0, u "I")] 22

def k9m0 : Method := { name := "<init>", desc := "()V", sig := { parameters := [], returnType := none }, accessFlags := 2, code := none }
def k9c1 : Code := { maxStack := 4, maxLocals := 8, code := prog_18_method_3_code, exceptionTable := #[], attributes := #[] }
def k9m1 : Method := { name := "parse", desc := "(Ljava/lang/String;Ljava/lang/String;II)I", sig := { parameters := [(.object "java/lang/String"), (.object "java/lang/String"), .int, .int], returnType := some .int }, accessFlags := 9, code := some k9c1 }
/-- com/example/quire/quire/catalogue/WholeNumber -/
def k9 : Class := { plain "com/example/quire/quire/catalogue/WholeNumber" (some 0) with
  accessFlags := 49
  interfaces := #[]
  cf := some (fileOf pool9 9 #[] #[{ accessFlags := 2, nameIndex := 7, descriptorIndex := 8, attributes := #[] }, { accessFlags := 9, nameIndex := 14, descriptorIndex := 15, attributes := #[] }] 49 4 #[] #[{ accessFlags := 25, nameIndex := 45, descriptorIndex := 46, attributes := #[] }])
  fields := #[{ name := "MAX", type := .int, accessFlags := 25, slot := 0, constantValue := 0 }]
  methods := #[k9m0, k9m1]
  instanceTypes := #[]
  staticTypes := #[.int]
  resolved := Array.replicate 69 none
  statics := none }

def pool10 : Array CpInfo := pool [(1, .class_ 2), (0, u "java/lang/String"), (1, .class_ 6), (1, u "java/lang/Object"), (0, u "<init>"), (0, u "()V"), (0, .methodref 1 10), (0, .nameAndType 11 12), (0, u "checkIndex"), (0, u "(II)V"), (1, .class_ 16), (1, u "java/lang/StringLatin1"), (36, u "([BI)C"), (67, u "$assertionsDisabled"), (0, u "Z"), (98, .class_ 223), (1, u "java/lang/StringLatin1$LinesSpliterator"), (28, u "charAt"), (137, .class_ 391), (0, u "java/lang/StringLatin1$CharsSpliterator")] 3

def k10m0 : Method := { name := "<init>", desc := "()V", sig := { parameters := [], returnType := none }, accessFlags := 0, code := none }
def k10c1 : Code := { maxStack := 2, maxLocals := 2, code := jdk_43_method_2_code, exceptionTable := #[], attributes := #[] }
def k10m1 : Method := { name := "charAt", desc := "([BI)C", sig := { parameters := [(.array .byte), .int], returnType := some .char }, accessFlags := 9, code := some k10c1 }
/-- java/lang/StringLatin1 -/
def k10 : Class := { plain "java/lang/StringLatin1" (some 0) with
  accessFlags := 48
  interfaces := #[]
  cf := some (fileOf pool10 14 #[.nestMembers #[390, 221]] #[{ accessFlags := 0, nameIndex := 7, descriptorIndex := 8, attributes := #[] }, { accessFlags := 9, nameIndex := 252, descriptorIndex := 53, attributes := #[] }] 48 4 #[] #[{ accessFlags := 4120, nameIndex := 121, descriptorIndex := 122, attributes := #[] }])
  fields := #[{ name := "$assertionsDisabled", type := .boolean, accessFlags := 4120, slot := 0, constantValue := 0 }]
  methods := #[k10m0, k10m1]
  instanceTypes := #[]
  staticTypes := #[.boolean]
  resolved := Array.replicate 395 none
  statics := none }

def pool11 : Array CpInfo := pool [(2, .class_ 4), (1, u "java/lang/Object"), (0, u "<init>"), (0, u "()V"), (17, .class_ 26), (1, u "jdk/internal/util/Preconditions"), (6, u "checkIndex"), (21, .class_ 56), (0, u "jdk/internal/util/Preconditions$4"), (57, .class_ 115), (0, u "jdk/internal/util/Preconditions$1"), (7, u "SIOOBE_FORMATTER"), (0, u "Ljava/util/function/BiFunction;"), (0, .class_ 126), (0, u "jdk/internal/util/Preconditions$2"), (3, u "AIOOBE_FORMATTER"), (0, .class_ 132), (0, u "jdk/internal/util/Preconditions$3"), (3, u "IOOBE_FORMATTER"), (41, u "(IILjava/util/function/BiFunction;)I")] 15

def k11m0 : Method := { name := "<init>", desc := "()V", sig := { parameters := [], returnType := none }, accessFlags := 1, code := none }
def k11c1 : Code := { maxStack := 3, maxLocals := 3, code := jdk_41_method_11_code, exceptionTable := #[], attributes := #[] }
def k11m1 : Method := { name := "checkIndex", desc := "(IILjava/util/function/BiFunction;)I", sig := { parameters := [.int, .int, (.object "java/util/function/BiFunction")], returnType := some .int }, accessFlags := 9, code := some k11c1 }
/-- jdk/internal/util/Preconditions -/
def k11 : Class := { plain "jdk/internal/util/Preconditions" (some 0) with
  accessFlags := 33
  interfaces := #[]
  cf := some (fileOf pool11 24 #[.nestMembers #[55, 131, 125, 114]] #[{ accessFlags := 1, nameIndex := 5, descriptorIndex := 6, attributes := #[] }, { accessFlags := 9, nameIndex := 33, descriptorIndex := 178, attributes := #[] }] 33 2 #[] #[{ accessFlags := 25, nameIndex := 123, descriptorIndex := 124, attributes := #[] }, { accessFlags := 25, nameIndex := 130, descriptorIndex := 124, attributes := #[] }, { accessFlags := 25, nameIndex := 136, descriptorIndex := 124, attributes := #[] }])
  fields := #[{ name := "SIOOBE_FORMATTER", type := (.object "java/util/function/BiFunction"), accessFlags := 25, slot := 0, constantValue := 0 }, { name := "AIOOBE_FORMATTER", type := (.object "java/util/function/BiFunction"), accessFlags := 25, slot := 1, constantValue := 0 }, { name := "IOOBE_FORMATTER", type := (.object "java/util/function/BiFunction"), accessFlags := 25, slot := 2, constantValue := 0 }]
  methods := #[k11m0, k11m1]
  instanceTypes := #[]
  staticTypes := #[(.object "java/util/function/BiFunction"), (.object "java/util/function/BiFunction"), (.object "java/util/function/BiFunction")]
  resolved := Array.replicate 194 none
  statics := some 1 }

def pool12 : Array CpInfo := pool [(9, u "<init>"), (6, .class_ 18), (1, u "java/lang/Object"), (0, u "()V"), (1, .class_ 23), (1, u "jdk/internal/util/ArraysSupport"), (0, u "LOG2_ARRAY_LONG_INDEX_SCALE"), (0, u "I"), (2, u "U"), (0, u "Ljdk/internal/misc/Unsafe;"), (8, u "BIG_ENDIAN"), (0, u "Z"), (8, u "LOG2_BYTE_BIT_SIZE"), (4, u "LOG2_ARRAY_INT_INDEX_SCALE"), (54, u "JLA"), (0, u "Ljdk/internal/access/JavaLangAccess;"), (11, u "LOG2_ARRAY_BOOLEAN_INDEX_SCALE"), (9, u "LOG2_ARRAY_BYTE_INDEX_SCALE"), (5, u "LOG2_ARRAY_CHAR_INDEX_SCALE"), (5, u "LOG2_ARRAY_SHORT_INDEX_SCALE"), (18, u "LOG2_ARRAY_FLOAT_INDEX_SCALE"), (24, u "LOG2_ARRAY_DOUBLE_INDEX_SCALE"), (89, u "T_BOOLEAN"), (2, u "T_CHAR"), (1, u "T_FLOAT"), (1, u "T_DOUBLE"), (1, u "T_BYTE"), (1, u "T_SHORT"), (1, u "T_INT"), (1, u "T_LONG"), (1, u "SOFT_MAX_ARRAY_LENGTH")] 83

def k12m0 : Method := { name := "<init>", desc := "()V", sig := { parameters := [], returnType := none }, accessFlags := 2, code := none }
/-- jdk/internal/util/ArraysSupport -/
def k12 : Class := { plain "jdk/internal/util/ArraysSupport" (some 0) with
  accessFlags := 33
  interfaces := #[]
  cf := some (fileOf pool12 21 #[] #[{ accessFlags := 2, nameIndex := 9, descriptorIndex := 19, attributes := #[] }] 33 16 #[] #[{ accessFlags := 24, nameIndex := 28, descriptorIndex := 29, attributes := #[] }, { accessFlags := 26, nameIndex := 38, descriptorIndex := 39, attributes := #[] }, { accessFlags := 25, nameIndex := 121, descriptorIndex := 25, attributes := #[] }, { accessFlags := 25, nameIndex := 131, descriptorIndex := 25, attributes := #[] }, { accessFlags := 25, nameIndex := 137, descriptorIndex := 25, attributes := #[] }, { accessFlags := 25, nameIndex := 143, descriptorIndex := 25, attributes := #[] }, { accessFlags := 25, nameIndex := 53, descriptorIndex := 25, attributes := #[] }, { accessFlags := 25, nameIndex := 24, descriptorIndex := 25, attributes := #[] }, { accessFlags := 25, nameIndex := 162, descriptorIndex := 25, attributes := #[] }, { accessFlags := 25, nameIndex := 187, descriptorIndex := 25, attributes := #[] }, { accessFlags := 26, nameIndex := 48, descriptorIndex := 25, attributes := #[] }, { accessFlags := 25, nameIndex := 277, descriptorIndex := 25, attributes := #[] }, { accessFlags := 25, nameIndex := 280, descriptorIndex := 25, attributes := #[] }, { accessFlags := 25, nameIndex := 282, descriptorIndex := 25, attributes := #[] }, { accessFlags := 25, nameIndex := 284, descriptorIndex := 25, attributes := #[] }, { accessFlags := 25, nameIndex := 286, descriptorIndex := 25, attributes := #[] }, { accessFlags := 25, nameIndex := 288, descriptorIndex := 25, attributes := #[] }, { accessFlags := 25, nameIndex := 290, descriptorIndex := 25, attributes := #[] }, { accessFlags := 25, nameIndex := 292, descriptorIndex := 25, attributes := #[] }, { accessFlags := 26, nameIndex := 108, descriptorIndex := 109, attributes := #[] }, { accessFlags := 25, nameIndex := 294, descriptorIndex := 25, attributes := #[] }])
  fields := #[{ name := "U", type := (.object "jdk/internal/misc/Unsafe"), accessFlags := 24, slot := 0, constantValue := 0 }, { name := "BIG_ENDIAN", type := .boolean, accessFlags := 26, slot := 1, constantValue := 0 }, { name := "LOG2_ARRAY_BOOLEAN_INDEX_SCALE", type := .int, accessFlags := 25, slot := 2, constantValue := 0 }, { name := "LOG2_ARRAY_BYTE_INDEX_SCALE", type := .int, accessFlags := 25, slot := 3, constantValue := 0 }, { name := "LOG2_ARRAY_CHAR_INDEX_SCALE", type := .int, accessFlags := 25, slot := 4, constantValue := 0 }, { name := "LOG2_ARRAY_SHORT_INDEX_SCALE", type := .int, accessFlags := 25, slot := 5, constantValue := 0 }, { name := "LOG2_ARRAY_INT_INDEX_SCALE", type := .int, accessFlags := 25, slot := 6, constantValue := 0 }, { name := "LOG2_ARRAY_LONG_INDEX_SCALE", type := .int, accessFlags := 25, slot := 7, constantValue := 0 }, { name := "LOG2_ARRAY_FLOAT_INDEX_SCALE", type := .int, accessFlags := 25, slot := 8, constantValue := 0 }, { name := "LOG2_ARRAY_DOUBLE_INDEX_SCALE", type := .int, accessFlags := 25, slot := 9, constantValue := 0 }, { name := "LOG2_BYTE_BIT_SIZE", type := .int, accessFlags := 26, slot := 10, constantValue := 0 }, { name := "T_BOOLEAN", type := .int, accessFlags := 25, slot := 11, constantValue := 0 }, { name := "T_CHAR", type := .int, accessFlags := 25, slot := 12, constantValue := 0 }, { name := "T_FLOAT", type := .int, accessFlags := 25, slot := 13, constantValue := 0 }, { name := "T_DOUBLE", type := .int, accessFlags := 25, slot := 14, constantValue := 0 }, { name := "T_BYTE", type := .int, accessFlags := 25, slot := 15, constantValue := 0 }, { name := "T_SHORT", type := .int, accessFlags := 25, slot := 16, constantValue := 0 }, { name := "T_INT", type := .int, accessFlags := 25, slot := 17, constantValue := 0 }, { name := "T_LONG", type := .int, accessFlags := 25, slot := 18, constantValue := 0 }, { name := "JLA", type := (.object "jdk/internal/access/JavaLangAccess"), accessFlags := 26, slot := 19, constantValue := 0 }, { name := "SOFT_MAX_ARRAY_LENGTH", type := .int, accessFlags := 25, slot := 20, constantValue := 0 }]
  methods := #[k12m0]
  instanceTypes := #[]
  staticTypes := #[(.object "jdk/internal/misc/Unsafe"), .boolean, .int, .int, .int, .int, .int, .int, .int, .int, .int, .int, .int, .int, .int, .int, .int, .int, .int, (.object "jdk/internal/access/JavaLangAccess"), .int]
  resolved := Array.replicate 378 none
  statics := none }

def pool13 : Array CpInfo := pool [(1, u "java/lang/Cloneable"), (0, .class_ 1), (0, u "java/lang/Object"), (0, .class_ 3)] 3

/-- java/lang/Cloneable -/
def k13 : Class := { plain "java/lang/Cloneable" (some 0) with
  accessFlags := 1537
  interfaces := #[]
  cf := some (fileOf pool13 2 #[] #[] 1537 4 #[] #[])
  fields := #[]
  methods := #[]
  instanceTypes := #[]
  staticTypes := #[]
  resolved := Array.replicate 8 none
  statics := none }

/-- the primitive byte -/
def k14 : Class := { plain "byte" none with kind := .primitive 'B', accessFlags := 0x411 }
/-- [B -/
def k15 : Class := { plain "[B" (some 0) with kind := .array 14 .byte, interfaces := #[13, 2], accessFlags := 1041 }

/-- the primitive char -/
def k16 : Class := { plain "char" none with kind := .primitive 'C', accessFlags := 0x411 }
/-- [C -/
def k17 : Class := { plain "[C" (some 0) with kind := .array 16 .char, interfaces := #[13, 2], accessFlags := 1041 }

/-- the primitive int -/
def k18 : Class := { plain "int" none with kind := .primitive 'I', accessFlags := 0x411 }
/-- [I -/
def k19 : Class := { plain "[I" (some 0) with kind := .array 18 .int, interfaces := #[13, 2], accessFlags := 1041 }

/-- the primitive long -/
def k20 : Class := { plain "long" none with kind := .primitive 'J', accessFlags := 0x411 }
/-- [J -/
def k21 : Class := { plain "[J" (some 0) with kind := .array 20 .long, interfaces := #[13, 2], accessFlags := 1041 }

def heap : Heap := #[{ cls := 7, slots := #[.long 0, .int 1, .null, .int 0, .null, .int 0, .int 0], vm := .statics 7 },
  { cls := 11, slots := #[.null, .null, .null], vm := .statics 11 }]
def classes : Array Class := #[k0, k1, k2, k3, k4, k5, k6, k7, k8, k9, k10, k11, k12, k13, k14, k15, k16, k17, k18, k19, k20, k21]
def interned : List (Array UInt16 × Addr) := []
def slotsUsed : Nat := 10
def theMethod : MethodId := ⟨1, 3⟩
def args0 : Array Value := #[.int 7, .int 5, .int 6, .int 2, .int 1]
def aboutOver (below : List Frame) : State where
  vm := { classes := classes, interned := interned.toArray }
  heap := heap
  slotsUsed := slotsUsed
  threads := #[{ frames := .invoking theMethod args0 :: below }]
def below0 : List Frame := [.native { method := ⟨0, 0⟩, args := #[] }]
def about1 : State := aboutOver below0
def p0 : Program := .bare "" "" ""
def e0 : Env := launch0.env 0 0 0
theorem w_frames : about1.frames = Frame.invoking theMethod args0 :: below0 := rfl
set_option maxRecDepth 65536 in
theorem w_args : argsFit about1.vm theMethod args0 = true := by decide +kernel
set_option maxRecDepth 65536 in
theorem w_heap : heapFits about1 = true := by decide +kernel
set_option maxRecDepth 65536 in
theorem w_runnable : about1.curStatus? = some .runnable := by decide +kernel
set_option maxRecDepth 65536 in
theorem w_alone : about1.alone = true := by decide +kernel
set_option maxRecDepth 65536 in
theorem w_named : about1.methodNamed? x = some theMethod := by decide +kernel
set_option maxRecDepth 65536 in
theorem w_hears : about1.hears theMethod below0 = true := by decide +kernel
set_option maxRecDepth 65536 in
theorem w_ripe : about1.ripe theMethod args0 below0 = true := by decide +kernel
theorem w_running : about1.status = .running := rfl
set_option maxRecDepth 65536 in
theorem w_room : about1.hasRoom e0.platform room_1 = true :=
  launch0.hasRoom_least _ room_1 (by decide +kernel) (by decide +kernel) (by decide +kernel) (by decide +kernel) (by decide +kernel) (by decide +kernel)
theorem allAtoms_all (ts : List Jvm.Cond) (a : Array Jvm.Value) (st : Jvm.State) : (allAtoms ts).before a st = ts.all (fun c => c.before a st) := by
  induction ts with
  | nil => rfl
  | cons c t ih =>
    show (Jvm.Cond.and c (allAtoms t)).before a st = _
    rw [Jvm.Cond.before_and, ih, List.all_cons]
def words1 : List Jvm.Cond := Jvm.Cond.code x code maxLocals ret :: tables_1
/-- a 'code' word, met by the world's own term for the bytes: nothing is compared byte by byte -/
theorem code_word {y : MethodName} {bytes : ByteArray} {mx : Nat} {rt : Option FieldType} {a : Array Value} {s : State} {m : MethodId} {meth : Method} {c : Code} (h1 : s.methodNamed? y = some m) (h2 : s.vm.method? m = some meth) (h3 : meth.code = some c) (h4 : c.code = bytes)
    (h5 : (c.maxLocals == mx && c.exceptionTable.isEmpty && decide (c.maxStack ≤ mostOperands) && decide (meth.sig.returnType = rt) && !meth.locks && decide (parseMethodDescriptor y.desc = some meth.sig)) = true) : (Jvm.Cond.code y bytes mx rt).before a s = true := by
  simp only [Bool.and_eq_true, beq_iff_eq, Bool.not_eq_true', decide_eq_true_eq] at h5
  obtain ⟨⟨⟨⟨⟨g1, g2⟩, g3⟩, g4⟩, g5⟩, g6⟩ := h5
  simp [Cond.before, Cond.holds, Cond.value, h1, h2, h3, h4, g1, g2, g3, g4, g5, g6]
def isCode : Jvm.Cond → Bool
  | .code _ _ _ _ => true
  | _ => false
theorem all_split {L : List Jvm.Cond} {P : Jvm.Cond → Bool} (h1 : L.all (fun c => isCode c || P c) = true) (h2 : ∀ c ∈ L.filter isCode, P c = true) : L.all P = true := by
  refine List.all_eq_true.mpr fun c hc => ?_
  have h := List.all_eq_true.mp h1 c hc
  rcases Bool.eq_false_or_eq_true (isCode c) with hi | hi
  · exact h2 c (List.mem_filter.mpr ⟨hc, hi⟩)
  · simpa [hi] using h
set_option maxRecDepth 65536 in
theorem w_c0 : (Jvm.Cond.code x code maxLocals ret).before args0 about1 = true := code_word (m := ⟨1, 3⟩) (meth := k1m3) (c := k1c3) (by decide +kernel) rfl rfl rfl (by decide +kernel)
set_option maxRecDepth 65536 in
theorem w_c1 : (Jvm.Cond.code ({ cls := "com/example/quire/quire/catalogue/WholeNumberParsePinLaw", name := "text", desc := "(JI)Ljava/lang/String;" } : Jvm.MethodName) method_3_code (3 : Nat) (Option.some (Jvm.ClassFile.FieldType.object "java/lang/String"))).before args0 about1 = true := code_word (m := ⟨1, 2⟩) (meth := k1m2) (c := k1c2) (by decide +kernel) rfl rfl rfl (by decide +kernel)
set_option maxRecDepth 65536 in
theorem w_c2 : (Jvm.Cond.code ({ cls := "com/example/quire/quire/catalogue/WholeNumberParsePinLaw", name := "ch", desc := "(JJ)C" } : Jvm.MethodName) method_2_code (4 : Nat) (Option.some Jvm.ClassFile.FieldType.char)).before args0 about1 = true := code_word (m := ⟨1, 1⟩) (meth := k1m1) (c := k1c1) (by decide +kernel) rfl rfl rfl (by decide +kernel)
set_option maxRecDepth 65536 in
theorem w_c3 : (Jvm.Cond.code ({ cls := "java/lang/String", name := "<init>", desc := "([C)V" } : Jvm.MethodName) jdk_42_method_3_code (2 : Nat) (Option.none : Option Jvm.ClassFile.FieldType)).before args0 about1 = true := code_word (m := ⟨7, 1⟩) (meth := k7m1) (c := k7c1) (by decide +kernel) rfl rfl rfl (by decide +kernel)
set_option maxRecDepth 65536 in
theorem w_c4 : (Jvm.Cond.code ({ cls := "java/lang/String", name := "<init>", desc := "([CIILjava/lang/Void;)V" } : Jvm.MethodName) jdk_42_method_149_code (6 : Nat) (Option.none : Option Jvm.ClassFile.FieldType)).before args0 about1 = true := code_word (m := ⟨7, 5⟩) (meth := k7m5) (c := k7c5) (by decide +kernel) rfl rfl rfl (by decide +kernel)
set_option maxRecDepth 65536 in
theorem w_c5 : (Jvm.Cond.code ({ cls := "java/lang/Object", name := "<init>", desc := "()V" } : Jvm.MethodName) object_method_1_code (1 : Nat) (Option.none : Option Jvm.ClassFile.FieldType)).before args0 about1 = true := code_word (m := ⟨0, 0⟩) (meth := k0m0) (c := k0c0) (by decide +kernel) rfl rfl rfl (by decide +kernel)
set_option maxRecDepth 65536 in
theorem w_c6 : (Jvm.Cond.code ({ cls := "java/lang/StringUTF16", name := "compress", desc := "([CII)[B" } : Jvm.MethodName) jdk_52_method_16_code (6 : Nat) (Option.some (Jvm.ClassFile.FieldType.array Jvm.ClassFile.FieldType.byte))).before args0 about1 = true := code_word (m := ⟨8, 2⟩) (meth := k8m2) (c := k8c2) (by decide +kernel) rfl rfl rfl (by decide +kernel)
set_option maxRecDepth 65536 in
theorem w_c7 : (Jvm.Cond.code ({ cls := "java/lang/StringUTF16", name := "compress", desc := "([CI[BII)I" } : Jvm.MethodName) jdk_52_method_21_code (7 : Nat) (Option.some Jvm.ClassFile.FieldType.int)).before args0 about1 = true := code_word (m := ⟨8, 3⟩) (meth := k8m3) (c := k8c3) (by decide +kernel) rfl rfl rfl (by decide +kernel)
set_option maxRecDepth 65536 in
theorem w_c8 : (Jvm.Cond.code ({ cls := "java/lang/StringUTF16", name := "coderFromArrayLen", desc := "([BI)B" } : Jvm.MethodName) jdk_52_method_15_code (2 : Nat) (Option.some Jvm.ClassFile.FieldType.byte)).before args0 about1 = true := code_word (m := ⟨8, 1⟩) (meth := k8m1) (c := k8c1) (by decide +kernel) rfl rfl rfl (by decide +kernel)
set_option maxRecDepth 65536 in
theorem w_c9 : (Jvm.Cond.code ({ cls := "com/example/quire/quire/catalogue/WholeNumber", name := "parse", desc := "(Ljava/lang/String;Ljava/lang/String;II)I" } : Jvm.MethodName) prog_18_method_3_code (8 : Nat) (Option.some Jvm.ClassFile.FieldType.int)).before args0 about1 = true := code_word (m := ⟨9, 1⟩) (meth := k9m1) (c := k9c1) (by decide +kernel) rfl rfl rfl (by decide +kernel)
set_option maxRecDepth 65536 in
theorem w_c10 : (Jvm.Cond.code ({ cls := "java/lang/String", name := "isEmpty", desc := "()Z" } : Jvm.MethodName) jdk_42_method_55_code (1 : Nat) (Option.some Jvm.ClassFile.FieldType.boolean)).before args0 about1 = true := code_word (m := ⟨7, 3⟩) (meth := k7m3) (c := k7c3) (by decide +kernel) rfl rfl rfl (by decide +kernel)
set_option maxRecDepth 65536 in
theorem w_c11 : (Jvm.Cond.code ({ cls := "java/lang/String", name := "length", desc := "()I" } : Jvm.MethodName) jdk_42_method_54_code (1 : Nat) (Option.some Jvm.ClassFile.FieldType.int)).before args0 about1 = true := code_word (m := ⟨7, 2⟩) (meth := k7m2) (c := k7c2) (by decide +kernel) rfl rfl rfl (by decide +kernel)
set_option maxRecDepth 65536 in
theorem w_c12 : (Jvm.Cond.code ({ cls := "java/lang/String", name := "coder", desc := "()B" } : Jvm.MethodName) jdk_42_method_152_code (1 : Nat) (Option.some Jvm.ClassFile.FieldType.byte)).before args0 about1 = true := code_word (m := ⟨7, 6⟩) (meth := k7m6) (c := k7c6) (by decide +kernel) rfl rfl rfl (by decide +kernel)
set_option maxRecDepth 65536 in
theorem w_c13 : (Jvm.Cond.code ({ cls := "java/lang/String", name := "charAt", desc := "(I)C" } : Jvm.MethodName) jdk_42_method_56_code (2 : Nat) (Option.some Jvm.ClassFile.FieldType.char)).before args0 about1 = true := code_word (m := ⟨7, 4⟩) (meth := k7m4) (c := k7c4) (by decide +kernel) rfl rfl rfl (by decide +kernel)
set_option maxRecDepth 65536 in
theorem w_c14 : (Jvm.Cond.code ({ cls := "java/lang/String", name := "isLatin1", desc := "()Z" } : Jvm.MethodName) jdk_42_method_154_code (1 : Nat) (Option.some Jvm.ClassFile.FieldType.boolean)).before args0 about1 = true := code_word (m := ⟨7, 7⟩) (meth := k7m7) (c := k7c7) (by decide +kernel) rfl rfl rfl (by decide +kernel)
set_option maxRecDepth 65536 in
theorem w_c15 : (Jvm.Cond.code ({ cls := "java/lang/StringLatin1", name := "charAt", desc := "([BI)C" } : Jvm.MethodName) jdk_43_method_2_code (2 : Nat) (Option.some Jvm.ClassFile.FieldType.char)).before args0 about1 = true := code_word (m := ⟨10, 1⟩) (meth := k10m1) (c := k10c1) (by decide +kernel) rfl rfl rfl (by decide +kernel)
set_option maxRecDepth 65536 in
theorem w_c16 : (Jvm.Cond.code ({ cls := "java/lang/String", name := "checkIndex", desc := "(II)V" } : Jvm.MethodName) jdk_42_method_155_code (2 : Nat) (Option.none : Option Jvm.ClassFile.FieldType)).before args0 about1 = true := code_word (m := ⟨7, 8⟩) (meth := k7m8) (c := k7c8) (by decide +kernel) rfl rfl rfl (by decide +kernel)
set_option maxRecDepth 65536 in
theorem w_c17 : (Jvm.Cond.code ({ cls := "jdk/internal/util/Preconditions", name := "checkIndex", desc := "(IILjava/util/function/BiFunction;)I" } : Jvm.MethodName) jdk_41_method_11_code (3 : Nat) (Option.some Jvm.ClassFile.FieldType.int)).before args0 about1 = true := code_word (m := ⟨11, 1⟩) (meth := k11m1) (c := k11c1) (by decide +kernel) rfl rfl rfl (by decide +kernel)
def codes1 : List Jvm.Cond := [Jvm.Cond.code x code maxLocals ret, Jvm.Cond.code ({ cls := "com/example/quire/quire/catalogue/WholeNumberParsePinLaw", name := "text", desc := "(JI)Ljava/lang/String;" } : Jvm.MethodName) method_3_code (3 : Nat) (Option.some (Jvm.ClassFile.FieldType.object "java/lang/String")), Jvm.Cond.code ({ cls := "com/example/quire/quire/catalogue/WholeNumberParsePinLaw", name := "ch", desc := "(JJ)C" } : Jvm.MethodName) method_2_code (4 : Nat) (Option.some Jvm.ClassFile.FieldType.char), Jvm.Cond.code ({ cls := "java/lang/String", name := "<init>", desc := "([C)V" } : Jvm.MethodName) jdk_42_method_3_code (2 : Nat) (Option.none : Option Jvm.ClassFile.FieldType), Jvm.Cond.code ({ cls := "java/lang/String", name := "<init>", desc := "([CIILjava/lang/Void;)V" } : Jvm.MethodName) jdk_42_method_149_code (6 : Nat) (Option.none : Option Jvm.ClassFile.FieldType), Jvm.Cond.code ({ cls := "java/lang/Object", name := "<init>", desc := "()V" } : Jvm.MethodName) object_method_1_code (1 : Nat) (Option.none : Option Jvm.ClassFile.FieldType), Jvm.Cond.code ({ cls := "java/lang/StringUTF16", name := "compress", desc := "([CII)[B" } : Jvm.MethodName) jdk_52_method_16_code (6 : Nat) (Option.some (Jvm.ClassFile.FieldType.array Jvm.ClassFile.FieldType.byte)), Jvm.Cond.code ({ cls := "java/lang/StringUTF16", name := "compress", desc := "([CI[BII)I" } : Jvm.MethodName) jdk_52_method_21_code (7 : Nat) (Option.some Jvm.ClassFile.FieldType.int), Jvm.Cond.code ({ cls := "java/lang/StringUTF16", name := "coderFromArrayLen", desc := "([BI)B" } : Jvm.MethodName) jdk_52_method_15_code (2 : Nat) (Option.some Jvm.ClassFile.FieldType.byte), Jvm.Cond.code ({ cls := "com/example/quire/quire/catalogue/WholeNumber", name := "parse", desc := "(Ljava/lang/String;Ljava/lang/String;II)I" } : Jvm.MethodName) prog_18_method_3_code (8 : Nat) (Option.some Jvm.ClassFile.FieldType.int), Jvm.Cond.code ({ cls := "java/lang/String", name := "isEmpty", desc := "()Z" } : Jvm.MethodName) jdk_42_method_55_code (1 : Nat) (Option.some Jvm.ClassFile.FieldType.boolean), Jvm.Cond.code ({ cls := "java/lang/String", name := "length", desc := "()I" } : Jvm.MethodName) jdk_42_method_54_code (1 : Nat) (Option.some Jvm.ClassFile.FieldType.int), Jvm.Cond.code ({ cls := "java/lang/String", name := "coder", desc := "()B" } : Jvm.MethodName) jdk_42_method_152_code (1 : Nat) (Option.some Jvm.ClassFile.FieldType.byte), Jvm.Cond.code ({ cls := "java/lang/String", name := "charAt", desc := "(I)C" } : Jvm.MethodName) jdk_42_method_56_code (2 : Nat) (Option.some Jvm.ClassFile.FieldType.char), Jvm.Cond.code ({ cls := "java/lang/String", name := "isLatin1", desc := "()Z" } : Jvm.MethodName) jdk_42_method_154_code (1 : Nat) (Option.some Jvm.ClassFile.FieldType.boolean), Jvm.Cond.code ({ cls := "java/lang/StringLatin1", name := "charAt", desc := "([BI)C" } : Jvm.MethodName) jdk_43_method_2_code (2 : Nat) (Option.some Jvm.ClassFile.FieldType.char), Jvm.Cond.code ({ cls := "java/lang/String", name := "checkIndex", desc := "(II)V" } : Jvm.MethodName) jdk_42_method_155_code (2 : Nat) (Option.none : Option Jvm.ClassFile.FieldType), Jvm.Cond.code ({ cls := "jdk/internal/util/Preconditions", name := "checkIndex", desc := "(IILjava/util/function/BiFunction;)I" } : Jvm.MethodName) jdk_41_method_11_code (3 : Nat) (Option.some Jvm.ClassFile.FieldType.int)]
set_option maxRecDepth 65536 in
theorem codes_eq : words1.filter isCode = codes1 := rfl
theorem w_codes : ∀ c ∈ words1.filter isCode, c.before args0 about1 = true := by
  rw [codes_eq]
  intro c hc
  simp only [codes1, List.mem_cons, List.not_mem_nil, or_false] at hc
  rcases hc with rfl | rfl | rfl | rfl | rfl | rfl | rfl | rfl | rfl | rfl | rfl | rfl | rfl | rfl | rfl | rfl | rfl | rfl
  · exact w_c0
  · exact w_c1
  · exact w_c2
  · exact w_c3
  · exact w_c4
  · exact w_c5
  · exact w_c6
  · exact w_c7
  · exact w_c8
  · exact w_c9
  · exact w_c10
  · exact w_c11
  · exact w_c12
  · exact w_c13
  · exact w_c14
  · exact w_c15
  · exact w_c16
  · exact w_c17
set_option maxRecDepth 65536 in
theorem w_t1 : (words1.take 24).all (fun c => isCode c || c.before args0 about1) = true := by decide +kernel
set_option maxRecDepth 65536 in
theorem w_t2 : ((words1.drop 24).take 24).all (fun c => isCode c || c.before args0 about1) = true := by decide +kernel
set_option maxRecDepth 65536 in
theorem w_t3 : (((words1.drop 24).drop 24).take 24).all (fun c => isCode c || c.before args0 about1) = true := by decide +kernel
set_option maxRecDepth 65536 in
theorem w_t4 : ((((words1.drop 24).drop 24).drop 24).take 24).all (fun c => isCode c || c.before args0 about1) = true := by decide +kernel
set_option maxRecDepth 65536 in
theorem w_t5 : ((((words1.drop 24).drop 24).drop 24).drop 24).all (fun c => isCode c || c.before args0 about1) = true := by decide +kernel
theorem w_tables : (allAtoms (Jvm.Cond.code x code maxLocals ret :: tables_1)).before args0 about1 = true := by
  rw [allAtoms_all]
  show words1.all (fun c => c.before args0 about1) = true
  refine all_split ?_ w_codes
  rw [← List.take_append_drop 24 words1, List.all_append, w_t1, ← List.take_append_drop 24 (words1.drop 24), List.all_append, w_t2, ← List.take_append_drop 24 ((words1.drop 24).drop 24), List.all_append, w_t3, ← List.take_append_drop 24 (((words1.drop 24).drop 24).drop 24), List.all_append, w_t4, w_t5]
  rfl
set_option maxRecDepth 65536 in
theorem w_rest : rest_1_c.before args0 about1 = true := by decide +kernel
set_option maxRecDepth 65536 in
theorem w_case : (Jvm.Cond.and given_1 narrow_1).before args0 about1 = true := by decide +kernel
theorem w_applies : (headSpec (Jvm.Cond.code x code maxLocals ret :: tables_1) room_1).applies x e0.platform about1 = true :=
  (Spec.applies_iff w_frames).mpr ⟨w_running, w_runnable, w_alone, w_named, w_hears, w_ripe, w_room, w_tables⟩
theorem atStart : AtStart classFile x code maxLocals ret World_1 tables_1 room_1 Calls_1 rest_1 Pre_1 launch0 p0 e0 about1 theMethod args0 below0 :=
  ⟨lists_1, trivial, launch0.admits_env _ _ _, launch0.least_env, fairChoices_fair.cas, fairChoices_fair.clock, w_frames, w_args, w_heap, w_applies, trivial, w_rest, w_case⟩
end start1
theorem witness_1 : WitnessClaimed_1 := ⟨start1.p0, start1.e0, start1.about1, start1.theMethod, start1.args0, start1.below0, start1.atStart⟩
end Jvm.Pilot.@@N@@
