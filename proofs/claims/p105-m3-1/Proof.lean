import JvmDerived
import JvmDerived.Pilot.@@N@@Statement
import JvmDerived.Pilot.@@N@@Code
set_option linter.unusedVariables false
set_option linter.unusedSimpArgs false
namespace Jvm.Pilot.@@N@@
namespace Own
open Jvm Jvm.ClassFile Sem Op Lib Jvm.Free Jvm.Stand Jvm.LawKit Jvm.RoadKit Bundle
/-! A small logic of walks over the library's Stand: WP says that the run from a frame returns well; one rule an instruction; a callee by Con. -/
abbrev Ctx : Type := Program × Env × Room × State × MethodId × Array Value × List Frame × Method × Code
abbrev Ctx.p (K : Ctx) : Program := K.1
abbrev Ctx.e (K : Ctx) : Env := K.2.1
abbrev Ctx.R (K : Ctx) : Room := K.2.2.1
abbrev Ctx.s (K : Ctx) : State := K.2.2.2.1
abbrev Ctx.m (K : Ctx) : MethodId := K.2.2.2.2.1
abbrev Ctx.args (K : Ctx) : Array Value := K.2.2.2.2.2.1
abbrev Ctx.below (K : Ctx) : List Frame := K.2.2.2.2.2.2.1
abbrev Ctx.meth (K : Ctx) : Method := K.2.2.2.2.2.2.2.1
abbrev Ctx.c (K : Ctx) : Code := K.2.2.2.2.2.2.2.2
/-- RoadKit's CHr; it: whether the walk may intern -/
def CHx (it : Prop) (Z : State) (EL : List (String × Nat)) (vm : Vm) (h : Heap) (vm1 : Vm) (h' : Heap) : Prop := CHv Z EL vm1 h' ∧ h.size ≤ h'.size ∧ ∀ y, Bk Z EL vm1 h' y → Bk Z EL vm h y ∨ (it ∧ h.size ≤ y)
section CHxs
variable {it it' : Prop} {Z : State} {EL : List (String × Nat)} {vm vm1 vm2 : Vm} {h h' h2 : Heap}
theorem CHx.refl (H : CHv Z EL vm h) : CHx it Z EL vm h vm h := ⟨H, Nat.le_refl _, fun _ q => Or.inl q⟩
theorem CHx.trans (A : CHx it Z EL vm h vm1 h') (B : CHx it Z EL vm1 h' vm2 h2) : CHx it Z EL vm h vm2 h2 := ⟨B.1, Nat.le_trans A.2.1 B.2.1, fun y q => by
  rcases B.2.2 y q with q | q
  · exact A.2.2 y q
  · exact Or.inr ⟨q.1, Nat.le_trans A.2.1 q.2⟩⟩
theorem CHx.safe (A : CHx it Z EL vm h vm1 h') {x : Addr} (hx : x < h.size) (S : Safe Z EL vm h x) : Safe Z EL vm1 h' x := fun B => by
  rcases A.2.2 x B with q | q
  · exact S q
  · exact absurd hx (Nat.not_lt.mpr q.2)
theorem CHx.ext (E : Ext h h') (H : CHv Z EL vm h) : CHx it Z EL vm h vm h' := ⟨H.ext E, E.1, fun y q => Or.inl ((H.step fun _ _ _ q => E.2 _ _ q).2 y q)⟩
theorem CHx.wr {a : Addr} {sl : Nat} {v : Value} (W : Wr h h' a sl v) (S : Safe Z EL vm h a) (H : CHv Z EL vm h) : CHx it Z EL vm h vm h' := ⟨H.wr W S, Nat.le_of_eq W.size.symm, fun y q => Or.inl ((H.wrStep W S).2 y q)⟩
theorem CHx.mono (hi : it' → it) (A : CHx it' Z EL vm h vm1 h') : CHx it Z EL vm h vm1 h' := ⟨A.1, A.2.1, fun y q => (A.2.2 y q).imp id fun z => ⟨hi z.1, z.2⟩⟩
theorem CHx.of (hi : it) (A : CHr Z EL vm h vm1 h') : CHx it Z EL vm h vm1 h' := ⟨A.1, A.2.1, fun y q => (A.2.2 y q).imp id fun z => ⟨hi, z⟩⟩
/-- over the same heap nothing new is booked -/
theorem CHx.still (A : CHr Z EL vm h vm1 h) : CHx it Z EL vm h vm1 h := ⟨A.1, A.2.1, fun y q => Or.inl ((A.2.2 y q).elim id fun z => by
  obtain ⟨c, hc⟩ := q.there
  exact absurd (Array.getElem?_eq_some_iff.mp hc).1 (Nat.not_lt.mpr z))⟩
end CHxs
/-- addresses that may be written: new since the law's start, no constant's cell -/
def Owned (Z : State) (EL : List (String × Nat)) (it : Prop) (n0 : Nat) (h0 : Heap) (ws0 : List Addr) (vm : Vm) (h : Heap) (ws : List Addr) : Prop :=
  ∀ x ∈ ws, n0 ≤ x ∧ x < h.size ∧ Safe Z EL vm h x ∧ (x ∈ ws0 ∨ h0.size ≤ x)
def Pos (l : Launch) (Z : State) (EL : List (String × Nat)) (it : Prop) (n0 : Nat) (own : String) (h0 : Heap) (ws0 : List Addr) (K : Ctx) (h : Heap) (ws : List Addr) (cells slots : Nat) (vm : Vm) (T : State) (locs : List Loc) : Prop :=
  Stand K.p l K.e K.R (K.s.setVm vm) K.m K.args K.below K.meth K.c T locs cells slots ∧ T.heap = h ∧ (∃ k, K.s.Since vm k ∧ k ≤ h.size) ∧ Z.Warmed39 vm ∧ vm.findClass own = some K.m.cls ∧
  CHx it Z EL K.s.vm h0 vm h ∧ Fr n0 locs ∧ Keep h0 h ws0 ∧ Old Z n0 h ∧ Owned Z EL it n0 h0 ws0 vm h ws
def Fine (Z : State) (EL : List (String × Nat)) (it : Prop) (n0 : Nat) (h0 : Heap) (ws0 : List Addr) (Q : Option Value → Heap → Prop) (cl sl : Nat) (s : State) (o : Outcome) (t : State) : Prop :=
  ∃ v L, o = .returned v ∧ (Q v t.heap ∧ Keep h0 t.heap ws0 ∧ Fr n0 L) ∧ CHx it Z EL s.vm h0 t.vm t.heap ∧ ReturnedEndW s o t L cl sl
def Goes (Z : State) (EL : List (String × Nat)) (it : Prop) (n0 : Nat) (h0 : Heap) (ws0 : List Addr) (Q : Option Value → Heap → Prop) (K : Ctx) (S : State) : Prop :=
  ∃ s₂ o, Steps K.p.tables K.e K.below S s₂ ∧ s₂.status = .running ∧ Ended s₂ K.below o ∧ Fine Z EL it n0 h0 ws0 Q K.R.cells K.R.slots K.s o s₂
def WP (l : Launch) (Z : State) (EL : List (String × Nat)) (it : Prop) (n0 : Nat) (own : String) (h0 : Heap) (ws0 : List Addr) (Q : Option Value → Heap → Prop) (K : Ctx) (h : Heap) (ws : List Addr) (cells slots : Nat) (g : JFrame) : Prop :=
  ∀ (vm : Vm) (T : State) (locs : List Loc), Pos l Z EL it n0 own h0 ws0 K h ws cells slots vm T locs → Goes Z EL it n0 h0 ws0 Q K (T.setTop g)
/-- what the walk knows of its own method -/
def Ok (l : Launch) (Z : State) (a0 : Array Value) (EL : List (String × Nat)) (it : Prop) (n0 : Nat) (own : String) (h0 : Heap) (ws0 : List Addr) (Q : Option Value → Heap → Prop) (code : ByteArray) (maxL : Nat) (ret : Option FieldType) (nm : String) (rm : Room) (K : Ctx) : Prop :=
  K.p.tables.exec = Jvm.exec ∧ EW Z a0 EL ∧ K.c.code = code ∧ K.c.maxLocals = maxL ∧ K.meth.sig.returnType = ret ∧ K.meth.name = nm ∧ K.meth.locks = false ∧ K.R = rm
/-- a method's law, as its body gives it -/
def Met (l : Launch) (Z : State) (EL : List (String × Nat)) (it : Prop) (n0 : Nat) (y : MethodName) (bytes : ByteArray) (maxL : Nat) (ret : Option FieldType) (rm : Room) (cs : List Jvm.Cond) (as : Array Value) (h : Heap) (ws : List Addr) (Q : Option Value → Heap → Prop) : Prop :=
  MetFree l y (head1 (Jvm.Cond.code y bytes maxL ret :: cs) rm) (fun a U => a = as ∧ Z.Warmed39 U.vm ∧ U.heap = h ∧ CHv Z EL U.vm h ∧ Old Z n0 h ∧ ∀ x ∈ ws, n0 ≤ x ∧ x < h.size ∧ Safe Z EL U.vm h x) (fun _ _ _ _ _ => True)
    (fun _ U o U' => Fine Z EL it n0 h ws Q rm.cells rm.slots U o U')
/-- a method's law, as a caller takes it -/
def Con (l : Launch) (Z : State) (a0 : Array Value) (EL : List (String × Nat)) (it : Prop) (n0 : Nat) (y : MethodName) (fr lo cl sl : Nat) (as : Array Value) (h : Heap) (ws : List Addr) (Q : Option Value → Heap → Prop) : Prop :=
  ∀ (R : Room) (p : Program) (e : Env) (below : List Frame) (s : State) (args : Array Value) (len W : Nat) (vm0 : Vm), Z.Warmed39 vm0 → EW Z a0 EL → CHv Z EL vm0 h → Old Z n0 h → (∀ x ∈ ws, n0 ≤ x ∧ x < h.size ∧ Safe Z EL vm0 h x) → fr ≤ R.frames → W + lo ≤ R.locals →
    BackS l R p e below (s.setVm vm0) args y len W (fun A a => a = as ∧ A.U.heap = h ∧ A.cells + cl ≤ R.cells ∧ A.slots + sl ≤ R.slots)
      (fun A _ v B => ∃ L, (Q v B.U.heap ∧ Keep h B.U.heap ws ∧ Fr n0 L) ∧ B.locs = A.locs ++ L ∧ B.cells = A.cells + cl ∧ B.slots = A.slots + sl ∧ CHx it Z EL vm0 h B.U.vm B.U.heap)
section Rules
variable {l : Launch} {Z : State} {a0 : Array Value} {EL : List (String × Nat)} {it : Prop} {n0 : Nat} {own : String} {h0 : Heap} {ws0 : List Addr} {Q : Option Value → Heap → Prop} {code : ByteArray} {maxL : Nat} {ret : Option FieldType} {nm : String} {rm : Room} {K : Ctx} {h : Heap} {ws : List Addr} {cells slots pc : Nat} {Ls : Array Slot} {st : List Value} {g g' : JFrame}
theorem Goes.of {S S' : State} (f : ∀ t, Steps K.p.tables K.e K.below S' t → Steps K.p.tables K.e K.below S t) (k : Goes Z EL it n0 h0 ws0 Q K S') : Goes Z EL it n0 h0 ws0 Q K S := by
  obtain ⟨s₂, o, h1, h2⟩ := k
  exact ⟨s₂, o, f _ h1, h2⟩
abbrev Ok.W (C : Ok l Z a0 EL it n0 own h0 ws0 Q code maxL ret nm rm K) (h : Heap) (ws : List Addr) (cells slots : Nat) (g : JFrame) : Prop := WP l Z EL it n0 own h0 ws0 Q K h ws cells slots g
theorem Ok.exec (C : Ok l Z a0 EL it n0 own h0 ws0 Q code maxL ret nm rm K) : K.p.tables.exec = Jvm.exec := C.1
theorem Ok.ew (C : Ok l Z a0 EL it n0 own h0 ws0 Q code maxL ret nm rm K) : EW Z a0 EL := C.2.1
theorem Ok.bytes (C : Ok l Z a0 EL it n0 own h0 ws0 Q code maxL ret nm rm K) : K.c.code = code := C.2.2.1
theorem Ok.maxl (C : Ok l Z a0 EL it n0 own h0 ws0 Q code maxL ret nm rm K) : K.c.maxLocals = maxL := C.2.2.2.1
theorem Ok.rets (C : Ok l Z a0 EL it n0 own h0 ws0 Q code maxL ret nm rm K) : K.meth.sig.returnType = ret := C.2.2.2.2.1
theorem Ok.named (C : Ok l Z a0 EL it n0 own h0 ws0 Q code maxL ret nm rm K) : K.meth.name = nm := C.2.2.2.2.2.1
theorem Ok.unlocked (C : Ok l Z a0 EL it n0 own h0 ws0 Q code maxL ret nm rm K) : K.meth.locks = false := C.2.2.2.2.2.2.1
theorem Ok.room (C : Ok l Z a0 EL it n0 own h0 ws0 Q code maxL ret nm rm K) : K.R = rm := C.2.2.2.2.2.2.2
theorem WP.step (f : ∀ vm T locs, Pos l Z EL it n0 own h0 ws0 K h ws cells slots vm T locs → ∀ t, Steps K.p.tables K.e K.below (T.setTop g') t → Steps K.p.tables K.e K.below (T.setTop g) t) (r : WP l Z EL it n0 own h0 ws0 Q K h ws cells slots g') : WP l Z EL it n0 own h0 ws0 Q K h ws cells slots g :=
  fun vm T locs P => Goes.of (f vm T locs P) (r vm T locs P)
/-- what a walk may lean on, wherever it stands -/
theorem Ok.know (C : Ok l Z a0 EL it n0 own h0 ws0 Q code maxL ret nm rm K) (r : n0 ≤ h.size → Keep h0 h ws0 → Old Z n0 h → (∀ x ∈ ws, n0 ≤ x ∧ x < h.size) → WP l Z EL it n0 own h0 ws0 Q K h ws cells slots g) : WP l Z EL it n0 own h0 ws0 Q K h ws cells slots g :=
  fun vm T locs P => r (P.2.2.2.2.2.2.2.2.1.1 ▸ P.2.2.2.2.2.2.2.2.1.2.1) P.2.2.2.2.2.2.2.1 P.2.2.2.2.2.2.2.2.1 (fun x hx => ⟨(P.2.2.2.2.2.2.2.2.2 x hx).1, (P.2.2.2.2.2.2.2.2.2 x hx).2.1⟩) vm T locs P
theorem Pos.ext {vm : Vm} {T T' : State} {locs : List Loc} {h' : Heap} {cells' slots' : Nat} (P : Pos l Z EL it n0 own h0 ws0 K h ws cells slots vm T locs) (X : Stand K.p l K.e K.R (K.s.setVm vm) K.m K.args K.below K.meth K.c T' locs cells' slots') (e : T'.heap = h') (E : Ext h h') :
    Pos l Z EL it n0 own h0 ws0 K h' ws cells' slots' vm T' locs := by
  obtain ⟨-, -, ⟨k, hS, hk⟩, hZ, hown, H, N, Kp, O, Ow⟩ := P
  exact ⟨X, e, ⟨k, hS, Nat.le_trans hk E.1⟩, hZ, hown, H.trans (CHx.ext E H.1), N, Kp.ext E, O.ext E, fun x hx => ⟨(Ow x hx).1, Nat.lt_of_lt_of_le (Ow x hx).2.1 E.1, (Ow x hx).2.2.1.ext E H.1, (Ow x hx).2.2.2⟩⟩
theorem Pos.new {vm : Vm} {T T' : State} {locs : List Loc} {h' : Heap} {cells' slots' : Nat} (P : Pos l Z EL it n0 own h0 ws0 K h ws cells slots vm T locs) (X : Stand K.p l K.e K.R (K.s.setVm vm) K.m K.args K.below K.meth K.c T' locs cells' slots') (e : T'.heap = h') (E : Ext h h') (hl : h.size < h'.size) :
    Pos l Z EL it n0 own h0 ws0 K h' (h.size :: ws) cells' slots' vm T' locs := by
  have P' := P.ext X e E
  obtain ⟨-, -, -, -, -, H, -, Kp, O, -⟩ := P
  refine ⟨P'.1, P'.2.1, P'.2.2.1, P'.2.2.2.1, P'.2.2.2.2.1, P'.2.2.2.2.2.1, P'.2.2.2.2.2.2.1, P'.2.2.2.2.2.2.2.1, P'.2.2.2.2.2.2.2.2.1, fun x hx => ?_⟩
  rcases List.mem_cons.mp hx with rfl | hx
  · exact ⟨O.1 ▸ O.2.1, hl, (Safe.new (Nat.le_refl _)).ext E H.1, Or.inr Kp.1⟩
  · exact P'.2.2.2.2.2.2.2.2.2 x hx
theorem Pos.wr {vm : Vm} {T T' : State} {locs : List Loc} {h' : Heap} {a : Nat} {sl : Nat} {v : Value} (P : Pos l Z EL it n0 own h0 ws0 K h ws cells slots vm T locs) (ha : a ∈ ws) (X : Stand K.p l K.e K.R (K.s.setVm vm) K.m K.args K.below K.meth K.c T' (locs ++ [⟨a, sl⟩]) cells slots) (e : T'.heap = h') (W : Wr h h' a sl v) :
    Pos l Z EL it n0 own h0 ws0 K h' ws cells slots vm T' (locs ++ [⟨a, sl⟩]) := by
  obtain ⟨-, -, ⟨k, hS, hk⟩, hZ, hown, H, N, Kp, O, Ow⟩ := P
  obtain ⟨q1, q2, q3, q4⟩ := Ow a ha
  exact ⟨X, e, ⟨k, hS, W.size ▸ hk⟩, hZ, hown, H.trans (CHx.wr W q3 H.1), Fr.snoc X N q1, Kp.wr W q4, O.wr W q1, fun x hx => ⟨(Ow x hx).1, W.size ▸ (Ow x hx).2.1, Safe.wr W q3 H.1 (Ow x hx).2.2.1, (Ow x hx).2.2.2⟩⟩
/-! plain steps -/
theorem Ok.aloadN (C : Ok l Z a0 EL it n0 own h0 ws0 Q code maxL ret nm rm K) {k : Fin 4} {v : Value} (hd : decode code pc = .ok (.aload_n k, 1)) (hl : Ls[k.val]? = some (.val v)) (hv : v.isRef = true) (r : WP l Z EL it n0 own h0 ws0 Q K h ws cells slots (mkF K.m (pc + 1) Ls (v :: st))) : WP l Z EL it n0 own h0 ws0 Q K h ws cells slots (mkF K.m pc Ls st) :=
  WP.step (fun _ _ _ P _ k => XS.aloadN P.1.here C.exec rfl (hb C.bytes hd) hl hv k) r
theorem Ok.aload (C : Ok l Z a0 EL it n0 own h0 ws0 Q code maxL ret nm rm K) {k : Nat} {v : Value} (hd : decode code pc = .ok (.aload k, 2)) (hl : Ls[k]? = some (.val v)) (hv : v.isRef = true) (r : WP l Z EL it n0 own h0 ws0 Q K h ws cells slots (mkF K.m (pc + 2) Ls (v :: st))) : WP l Z EL it n0 own h0 ws0 Q K h ws cells slots (mkF K.m pc Ls st) :=
  WP.step (fun _ _ _ P _ k => XS.aload P.1.here C.exec rfl (hb C.bytes hd) hl hv k) r
theorem Ok.iloadN (C : Ok l Z a0 EL it n0 own h0 ws0 Q code maxL ret nm rm K) {k : Fin 4} {v : Int32} (hd : decode code pc = .ok (.iload_n k, 1)) (hl : Ls[k.val]? = some (.val (.int v))) (r : WP l Z EL it n0 own h0 ws0 Q K h ws cells slots (mkF K.m (pc + 1) Ls (.int v :: st))) : WP l Z EL it n0 own h0 ws0 Q K h ws cells slots (mkF K.m pc Ls st) :=
  WP.step (fun _ _ _ P _ k => XS.iloadN P.1.here C.exec rfl (hb C.bytes hd) hl k) r
theorem Ok.iload (C : Ok l Z a0 EL it n0 own h0 ws0 Q code maxL ret nm rm K) {k : Nat} {v : Int32} (hd : decode code pc = .ok (.iload k, 2)) (hl : Ls[k]? = some (.val (.int v))) (r : WP l Z EL it n0 own h0 ws0 Q K h ws cells slots (mkF K.m (pc + 2) Ls (.int v :: st))) : WP l Z EL it n0 own h0 ws0 Q K h ws cells slots (mkF K.m pc Ls st) :=
  WP.step (fun _ _ _ P _ k => XS.iload P.1.here C.exec rfl (hb C.bytes hd) hl k) r
theorem Ok.lloadN (C : Ok l Z a0 EL it n0 own h0 ws0 Q code maxL ret nm rm K) {k : Fin 4} {v : Int64} (hd : decode code pc = .ok (.lload_n k, 1)) (hl : Ls[k.val]? = some (.val (.long v))) (r : WP l Z EL it n0 own h0 ws0 Q K h ws cells slots (mkF K.m (pc + 1) Ls (.long v :: st))) : WP l Z EL it n0 own h0 ws0 Q K h ws cells slots (mkF K.m pc Ls st) :=
  WP.step (fun _ _ _ P _ k => XS.lloadN P.1.here C.exec rfl (hb C.bytes hd) hl k) r
theorem Ok.lload (C : Ok l Z a0 EL it n0 own h0 ws0 Q code maxL ret nm rm K) {k : Nat} {v : Int64} (hd : decode code pc = .ok (.lload k, 2)) (hl : Ls[k]? = some (.val (.long v))) (r : WP l Z EL it n0 own h0 ws0 Q K h ws cells slots (mkF K.m (pc + 2) Ls (.long v :: st))) : WP l Z EL it n0 own h0 ws0 Q K h ws cells slots (mkF K.m pc Ls st) :=
  WP.step (fun _ _ _ P _ k => XS.lload P.1.here C.exec rfl (hb C.bytes hd) hl k) r
theorem Ok.iconst (C : Ok l Z a0 EL it n0 own h0 ws0 Q code maxL ret nm rm K) {i : Int} {v : Int32} (hd : decode code pc = .ok (.iconst i, 1)) (hv : Int32.ofInt i = v) (r : WP l Z EL it n0 own h0 ws0 Q K h ws cells slots (mkF K.m (pc + 1) Ls (.int v :: st))) : WP l Z EL it n0 own h0 ws0 Q K h ws cells slots (mkF K.m pc Ls st) := by
  subst hv; exact WP.step (fun _ _ _ P _ k => XS.iconst P.1.here C.exec rfl (hb C.bytes hd) k) r
theorem Ok.bipush (C : Ok l Z a0 EL it n0 own h0 ws0 Q code maxL ret nm rm K) {i : Int} {v : Int32} (hd : decode code pc = .ok (.bipush i, 2)) (hv : (Int8.ofInt i).toInt32 = v) (r : WP l Z EL it n0 own h0 ws0 Q K h ws cells slots (mkF K.m (pc + 2) Ls (.int v :: st))) : WP l Z EL it n0 own h0 ws0 Q K h ws cells slots (mkF K.m pc Ls st) := by
  subst hv; exact WP.step (fun _ _ _ P _ k => XS.bipush P.1.here C.exec rfl (hb C.bytes hd) k) r
theorem Ok.sipush (C : Ok l Z a0 EL it n0 own h0 ws0 Q code maxL ret nm rm K) {i : Int} {v : Int32} (hd : decode code pc = .ok (.sipush i, 3)) (hv : (Int16.ofInt i).toInt32 = v) (r : WP l Z EL it n0 own h0 ws0 Q K h ws cells slots (mkF K.m (pc + 3) Ls (.int v :: st))) : WP l Z EL it n0 own h0 ws0 Q K h ws cells slots (mkF K.m pc Ls st) := by
  subst hv; exact WP.step (fun _ _ _ P _ k => XS.sipush P.1.here C.exec rfl (hb C.bytes hd) k) r
theorem Ok.lconst (C : Ok l Z a0 EL it n0 own h0 ws0 Q code maxL ret nm rm K) {i : Fin 2} (hd : decode code pc = .ok (.lconst i, 1)) {v : Int64} (hv : Int64.ofNat i.val = v) (r : WP l Z EL it n0 own h0 ws0 Q K h ws cells slots (mkF K.m (pc + 1) Ls (.long v :: st))) : WP l Z EL it n0 own h0 ws0 Q K h ws cells slots (mkF K.m pc Ls st) := by
  subst hv; exact WP.step (fun _ _ _ P _ k => XS.lconst P.1.here C.exec rfl (hb C.bytes hd) k) r
theorem Ok.aconstNull (C : Ok l Z a0 EL it n0 own h0 ws0 Q code maxL ret nm rm K) (hd : decode code pc = .ok (.aconst_null, 1)) (r : WP l Z EL it n0 own h0 ws0 Q K h ws cells slots (mkF K.m (pc + 1) Ls (.null :: st))) : WP l Z EL it n0 own h0 ws0 Q K h ws cells slots (mkF K.m pc Ls st) :=
  WP.step (fun _ _ _ P _ k => XS.aconstNull P.1.here C.exec rfl (hb C.bytes hd) k) r
theorem Ok.ldcInt (C : Ok l Z a0 EL it n0 own h0 ws0 Q code maxL ret nm rm K) {index : Nat} {v : Int32} (w : (Jvm.Cond.constant own index v).before a0 Z = true) (hd : decode code pc = .ok (.ldc index, 2)) (r : WP l Z EL it n0 own h0 ws0 Q K h ws cells slots (mkF K.m (pc + 2) Ls (.int v :: st))) : WP l Z EL it n0 own h0 ws0 Q K h ws cells slots (mkF K.m pc Ls st) :=
  WP.step (fun _ _ _ P t k => P.1.ldcInt C.exec P.2.2.2.2.1 (mv P.2.2.2.1 w) (g := mkF K.m pc Ls st) rfl (hb C.bytes hd) t k) r
theorem Ok.ldcwInt (C : Ok l Z a0 EL it n0 own h0 ws0 Q code maxL ret nm rm K) {index : Nat} {v : Int32} (w : (Jvm.Cond.constant own index v).before a0 Z = true) (hd : decode code pc = .ok (.ldc_w index, 3)) (r : WP l Z EL it n0 own h0 ws0 Q K h ws cells slots (mkF K.m (pc + 3) Ls (.int v :: st))) : WP l Z EL it n0 own h0 ws0 Q K h ws cells slots (mkF K.m pc Ls st) :=
  WP.step (fun _ _ _ P t k => P.1.ldcwInt C.exec P.2.2.2.2.1 (mv P.2.2.2.1 w) (g := mkF K.m pc Ls st) rfl (hb C.bytes hd) t k) r
theorem Ok.ldc2Long (C : Ok l Z a0 EL it n0 own h0 ws0 Q code maxL ret nm rm K) {index : Nat} {v : Int64} (w : (Jvm.Cond.constantLong own index v).before a0 Z = true) (hd : decode code pc = .ok (.ldc2_w index, 3)) (r : WP l Z EL it n0 own h0 ws0 Q K h ws cells slots (mkF K.m (pc + 3) Ls (.long v :: st))) : WP l Z EL it n0 own h0 ws0 Q K h ws cells slots (mkF K.m pc Ls st) :=
  WP.step (fun _ _ _ P t k => P.1.ldc2Long C.exec P.2.2.2.2.1 (mv P.2.2.2.1 w) (g := mkF K.m pc Ls st) rfl (hb C.bytes hd) t k) r
theorem Ok.iadd (C : Ok l Z a0 EL it n0 own h0 ws0 Q code maxL ret nm rm K) {x y : Int32} (hd : decode code pc = .ok (.iadd, 1)) (r : WP l Z EL it n0 own h0 ws0 Q K h ws cells slots (mkF K.m (pc + 1) Ls (.int (x + y) :: st))) : WP l Z EL it n0 own h0 ws0 Q K h ws cells slots (mkF K.m pc Ls (.int y :: .int x :: st)) :=
  WP.step (fun _ _ _ P _ k => XS.iadd P.1.here C.exec rfl (hb C.bytes hd) rfl k) r
theorem Ok.isub (C : Ok l Z a0 EL it n0 own h0 ws0 Q code maxL ret nm rm K) {x y : Int32} (hd : decode code pc = .ok (.isub, 1)) (r : WP l Z EL it n0 own h0 ws0 Q K h ws cells slots (mkF K.m (pc + 1) Ls (.int (x - y) :: st))) : WP l Z EL it n0 own h0 ws0 Q K h ws cells slots (mkF K.m pc Ls (.int y :: .int x :: st)) :=
  WP.step (fun _ _ _ P _ k => XS.isub P.1.here C.exec rfl (hb C.bytes hd) rfl k) r
theorem Ok.imul (C : Ok l Z a0 EL it n0 own h0 ws0 Q code maxL ret nm rm K) {x y : Int32} (hd : decode code pc = .ok (.imul, 1)) (r : WP l Z EL it n0 own h0 ws0 Q K h ws cells slots (mkF K.m (pc + 1) Ls (.int (x * y) :: st))) : WP l Z EL it n0 own h0 ws0 Q K h ws cells slots (mkF K.m pc Ls (.int y :: .int x :: st)) :=
  WP.step (fun _ _ _ P _ k => XS.imul P.1.here C.exec rfl (hb C.bytes hd) rfl k) r
theorem Ok.iand (C : Ok l Z a0 EL it n0 own h0 ws0 Q code maxL ret nm rm K) {x y : Int32} (hd : decode code pc = .ok (.iand, 1)) (r : WP l Z EL it n0 own h0 ws0 Q K h ws cells slots (mkF K.m (pc + 1) Ls (.int (x &&& y) :: st))) : WP l Z EL it n0 own h0 ws0 Q K h ws cells slots (mkF K.m pc Ls (.int y :: .int x :: st)) :=
  WP.step (fun _ _ _ P _ k => XS.iand P.1.here C.exec rfl (hb C.bytes hd) rfl k) r
theorem Ok.ior (C : Ok l Z a0 EL it n0 own h0 ws0 Q code maxL ret nm rm K) {x y : Int32} (hd : decode code pc = .ok (.ior, 1)) (r : WP l Z EL it n0 own h0 ws0 Q K h ws cells slots (mkF K.m (pc + 1) Ls (.int (x ||| y) :: st))) : WP l Z EL it n0 own h0 ws0 Q K h ws cells slots (mkF K.m pc Ls (.int y :: .int x :: st)) :=
  WP.step (fun _ _ _ P _ k => XS.ior P.1.here C.exec rfl (hb C.bytes hd) rfl k) r
theorem Ok.ixor (C : Ok l Z a0 EL it n0 own h0 ws0 Q code maxL ret nm rm K) {x y : Int32} (hd : decode code pc = .ok (.ixor, 1)) (r : WP l Z EL it n0 own h0 ws0 Q K h ws cells slots (mkF K.m (pc + 1) Ls (.int (x ^^^ y) :: st))) : WP l Z EL it n0 own h0 ws0 Q K h ws cells slots (mkF K.m pc Ls (.int y :: .int x :: st)) :=
  WP.step (fun _ _ _ P _ k => XS.ixor P.1.here C.exec rfl (hb C.bytes hd) rfl k) r
theorem Ok.ladd (C : Ok l Z a0 EL it n0 own h0 ws0 Q code maxL ret nm rm K) {x y : Int64} (hd : decode code pc = .ok (.ladd, 1)) (r : WP l Z EL it n0 own h0 ws0 Q K h ws cells slots (mkF K.m (pc + 1) Ls (.long (x + y) :: st))) : WP l Z EL it n0 own h0 ws0 Q K h ws cells slots (mkF K.m pc Ls (.long y :: .long x :: st)) :=
  WP.step (fun _ _ _ P _ k => XS.ladd P.1.here C.exec rfl (hb C.bytes hd) rfl k) r
theorem Ok.lsub (C : Ok l Z a0 EL it n0 own h0 ws0 Q code maxL ret nm rm K) {x y : Int64} (hd : decode code pc = .ok (.lsub, 1)) (r : WP l Z EL it n0 own h0 ws0 Q K h ws cells slots (mkF K.m (pc + 1) Ls (.long (x - y) :: st))) : WP l Z EL it n0 own h0 ws0 Q K h ws cells slots (mkF K.m pc Ls (.long y :: .long x :: st)) :=
  WP.step (fun _ _ _ P _ k => XS.lsub P.1.here C.exec rfl (hb C.bytes hd) rfl k) r
theorem Ok.land (C : Ok l Z a0 EL it n0 own h0 ws0 Q code maxL ret nm rm K) {x y : Int64} (hd : decode code pc = .ok (.land, 1)) (r : WP l Z EL it n0 own h0 ws0 Q K h ws cells slots (mkF K.m (pc + 1) Ls (.long (x &&& y) :: st))) : WP l Z EL it n0 own h0 ws0 Q K h ws cells slots (mkF K.m pc Ls (.long y :: .long x :: st)) :=
  WP.step (fun _ _ _ P _ k => XS.land P.1.here C.exec rfl (hb C.bytes hd) rfl k) r
theorem Ok.lmul (C : Ok l Z a0 EL it n0 own h0 ws0 Q code maxL ret nm rm K) {x y : Int64} (hd : decode code pc = .ok (.lmul, 1)) (r : WP l Z EL it n0 own h0 ws0 Q K h ws cells slots (mkF K.m (pc + 1) Ls (.long (x * y) :: st))) : WP l Z EL it n0 own h0 ws0 Q K h ws cells slots (mkF K.m pc Ls (.long y :: .long x :: st)) :=
  WP.step (fun _ _ _ P _ k => XS.lmul P.1.here C.exec rfl (hb C.bytes hd) rfl k) r
theorem Ok.i2c (C : Ok l Z a0 EL it n0 own h0 ws0 Q code maxL ret nm rm K) {x : Int32} (hd : decode code pc = .ok (.i2c, 1)) (r : WP l Z EL it n0 own h0 ws0 Q K h ws cells slots (mkF K.m (pc + 1) Ls (.int (x.toUInt32.toUInt16.toUInt32.toInt32) :: st))) : WP l Z EL it n0 own h0 ws0 Q K h ws cells slots (mkF K.m pc Ls (.int x :: st)) :=
  WP.step (fun _ _ _ P _ k => XS.i2c P.1.here C.exec rfl (hb C.bytes hd) rfl k) r
theorem Ok.i2b (C : Ok l Z a0 EL it n0 own h0 ws0 Q code maxL ret nm rm K) {x : Int32} (hd : decode code pc = .ok (.i2b, 1)) (r : WP l Z EL it n0 own h0 ws0 Q K h ws cells slots (mkF K.m (pc + 1) Ls (.int (x.toInt8.toInt32) :: st))) : WP l Z EL it n0 own h0 ws0 Q K h ws cells slots (mkF K.m pc Ls (.int x :: st)) :=
  WP.step (fun _ _ _ P _ k => XS.i2b P.1.here C.exec rfl (hb C.bytes hd) rfl k) r
theorem Ok.i2l (C : Ok l Z a0 EL it n0 own h0 ws0 Q code maxL ret nm rm K) {x : Int32} (hd : decode code pc = .ok (.i2l, 1)) (r : WP l Z EL it n0 own h0 ws0 Q K h ws cells slots (mkF K.m (pc + 1) Ls (.long (x.toInt64) :: st))) : WP l Z EL it n0 own h0 ws0 Q K h ws cells slots (mkF K.m pc Ls (.int x :: st)) :=
  WP.step (fun _ _ _ P _ k => XS.i2l P.1.here C.exec rfl (hb C.bytes hd) rfl k) r
theorem Ok.l2i (C : Ok l Z a0 EL it n0 own h0 ws0 Q code maxL ret nm rm K) {x : Int64} (hd : decode code pc = .ok (.l2i, 1)) (r : WP l Z EL it n0 own h0 ws0 Q K h ws cells slots (mkF K.m (pc + 1) Ls (.int (x.toInt32) :: st))) : WP l Z EL it n0 own h0 ws0 Q K h ws cells slots (mkF K.m pc Ls (.long x :: st)) :=
  WP.step (fun _ _ _ P _ k => XS.l2i P.1.here C.exec rfl (hb C.bytes hd) rfl k) r
theorem Ok.ineg (C : Ok l Z a0 EL it n0 own h0 ws0 Q code maxL ret nm rm K) {x : Int32} (hd : decode code pc = .ok (.ineg, 1)) (r : WP l Z EL it n0 own h0 ws0 Q K h ws cells slots (mkF K.m (pc + 1) Ls (.int (-x) :: st))) : WP l Z EL it n0 own h0 ws0 Q K h ws cells slots (mkF K.m pc Ls (.int x :: st)) :=
  WP.step (fun _ _ _ P _ k => XS.ineg P.1.here C.exec rfl (hb C.bytes hd) rfl k) r
theorem Ok.ishl (C : Ok l Z a0 EL it n0 own h0 ws0 Q code maxL ret nm rm K) {x y : Int32} (hd : decode code pc = .ok (.ishl, 1)) (r : WP l Z EL it n0 own h0 ws0 Q K h ws cells slots (mkF K.m (pc + 1) Ls (.int (x <<< (y &&& 31)) :: st))) : WP l Z EL it n0 own h0 ws0 Q K h ws cells slots (mkF K.m pc Ls (.int y :: .int x :: st)) :=
  WP.step (fun _ _ _ P _ k => XS.ishl P.1.here C.exec rfl (hb C.bytes hd) rfl k) r
theorem Ok.ishr (C : Ok l Z a0 EL it n0 own h0 ws0 Q code maxL ret nm rm K) {x y : Int32} (hd : decode code pc = .ok (.ishr, 1)) (r : WP l Z EL it n0 own h0 ws0 Q K h ws cells slots (mkF K.m (pc + 1) Ls (.int (x >>> (y &&& 31)) :: st))) : WP l Z EL it n0 own h0 ws0 Q K h ws cells slots (mkF K.m pc Ls (.int y :: .int x :: st)) :=
  WP.step (fun _ _ _ P _ k => XS.ishr P.1.here C.exec rfl (hb C.bytes hd) rfl k) r
theorem Ok.iushr (C : Ok l Z a0 EL it n0 own h0 ws0 Q code maxL ret nm rm K) {x y : Int32} (hd : decode code pc = .ok (.iushr, 1)) (r : WP l Z EL it n0 own h0 ws0 Q K h ws cells slots (mkF K.m (pc + 1) Ls (.int (x.toUInt32 >>> (y &&& 31).toUInt32).toInt32 :: st))) : WP l Z EL it n0 own h0 ws0 Q K h ws cells slots (mkF K.m pc Ls (.int y :: .int x :: st)) :=
  WP.step (fun _ _ _ P _ k => XS.iushr P.1.here C.exec rfl (hb C.bytes hd) rfl k) r
theorem Ok.lushr (C : Ok l Z a0 EL it n0 own h0 ws0 Q code maxL ret nm rm K) {x : Int64} {y : Int32} (hd : decode code pc = .ok (.lushr, 1)) (r : WP l Z EL it n0 own h0 ws0 Q K h ws cells slots (mkF K.m (pc + 1) Ls (.long (x.toUInt64 >>> (y &&& 0x3f).toInt64.toUInt64).toInt64 :: st))) : WP l Z EL it n0 own h0 ws0 Q K h ws cells slots (mkF K.m pc Ls (.int y :: .long x :: st)) :=
  WP.step (fun _ _ _ P _ k => XS.lushr P.1.here C.exec rfl (hb C.bytes hd) rfl k) r
theorem Ok.idiv (C : Ok l Z a0 EL it n0 own h0 ws0 Q code maxL ret nm rm K) {x y : Int32} (hy : y ≠ 0) (hd : decode code pc = .ok (.idiv, 1)) (r : WP l Z EL it n0 own h0 ws0 Q K h ws cells slots (mkF K.m (pc + 1) Ls (.int (x / y) :: st))) : WP l Z EL it n0 own h0 ws0 Q K h ws cells slots (mkF K.m pc Ls (.int y :: .int x :: st)) :=
  WP.step (fun _ _ _ P _ k => XS.idiv P.1.here C.exec rfl (hb C.bytes hd) rfl hy k) r
theorem Ok.irem (C : Ok l Z a0 EL it n0 own h0 ws0 Q code maxL ret nm rm K) {x y : Int32} (hy : y ≠ 0) (hd : decode code pc = .ok (.irem, 1)) (r : WP l Z EL it n0 own h0 ws0 Q K h ws cells slots (mkF K.m (pc + 1) Ls (.int (x % y) :: st))) : WP l Z EL it n0 own h0 ws0 Q K h ws cells slots (mkF K.m pc Ls (.int y :: .int x :: st)) :=
  WP.step (fun _ _ _ P _ k => iremM P.1 C.exec (g := mkF K.m pc Ls (.int y :: .int x :: st)) rfl (hb C.bytes hd) rfl hy k) r
theorem Ok.ldiv (C : Ok l Z a0 EL it n0 own h0 ws0 Q code maxL ret nm rm K) {x y : Int64} (hy : y ≠ 0) (hd : decode code pc = .ok (.ldiv, 1)) (r : WP l Z EL it n0 own h0 ws0 Q K h ws cells slots (mkF K.m (pc + 1) Ls (.long (x / y) :: st))) : WP l Z EL it n0 own h0 ws0 Q K h ws cells slots (mkF K.m pc Ls (.long y :: .long x :: st)) :=
  WP.step (fun _ _ _ P _ k => XS.ldiv P.1.here C.exec rfl (hb C.bytes hd) rfl hy k) r
theorem Ok.lrem (C : Ok l Z a0 EL it n0 own h0 ws0 Q code maxL ret nm rm K) {x y : Int64} (hy : y ≠ 0) (hd : decode code pc = .ok (.lrem, 1)) (r : WP l Z EL it n0 own h0 ws0 Q K h ws cells slots (mkF K.m (pc + 1) Ls (.long (x % y) :: st))) : WP l Z EL it n0 own h0 ws0 Q K h ws cells slots (mkF K.m pc Ls (.long y :: .long x :: st)) :=
  WP.step (fun _ _ _ P _ k => XS.lrem P.1.here C.exec rfl (hb C.bytes hd) rfl hy (by rw [lrem_mod]; exact k)) r
theorem Ok.lcmp (C : Ok l Z a0 EL it n0 own h0 ws0 Q code maxL ret nm rm K) {x y : Int64} (hd : decode code pc = .ok (.lcmp, 1)) (r : WP l Z EL it n0 own h0 ws0 Q K h ws cells slots (mkF K.m (pc + 1) Ls (.int (lcmpW x y) :: st))) : WP l Z EL it n0 own h0 ws0 Q K h ws cells slots (mkF K.m pc Ls (.long y :: .long x :: st)) :=
  WP.step (fun _ _ _ P _ k => XS.lcmp P.1.here C.exec rfl (hb C.bytes hd) rfl k) r
theorem Ok.dup (C : Ok l Z a0 EL it n0 own h0 ws0 Q code maxL ret nm rm K) {x : Value} (hc : x.category = 1) (hd : decode code pc = .ok (.dup, 1)) (r : WP l Z EL it n0 own h0 ws0 Q K h ws cells slots (mkF K.m (pc + 1) Ls (x :: x :: st))) : WP l Z EL it n0 own h0 ws0 Q K h ws cells slots (mkF K.m pc Ls (x :: st)) :=
  WP.step (fun _ _ _ P _ k => XS.dup P.1.here C.exec rfl (hb C.bytes hd) rfl hc k) r
theorem Ok.pop (C : Ok l Z a0 EL it n0 own h0 ws0 Q code maxL ret nm rm K) {x : Value} (hc : x.category = 1) (hd : decode code pc = .ok (.pop, 1)) (r : WP l Z EL it n0 own h0 ws0 Q K h ws cells slots (mkF K.m (pc + 1) Ls st)) : WP l Z EL it n0 own h0 ws0 Q K h ws cells slots (mkF K.m pc Ls (x :: st)) :=
  WP.step (fun _ _ _ P _ k => XS.pop P.1.here C.exec rfl (hb C.bytes hd) rfl hc k) r
theorem Ok.istoreN (C : Ok l Z a0 EL it n0 own h0 ws0 Q code maxL ret nm rm K) {k : Fin 4} {x : Int32} (L' : Array Slot) (hd : decode code pc = .ok (.istore_n k, 1)) (hl : storeLocals Ls k.val (.int x) = some L') (r : WP l Z EL it n0 own h0 ws0 Q K h ws cells slots (mkF K.m (pc + 1) L' st)) : WP l Z EL it n0 own h0 ws0 Q K h ws cells slots (mkF K.m pc Ls (.int x :: st)) :=
  WP.step (fun _ _ _ P _ k => XS.istoreN P.1.here C.exec rfl (hb C.bytes hd) rfl hl k) r
theorem Ok.istore (C : Ok l Z a0 EL it n0 own h0 ws0 Q code maxL ret nm rm K) {k : Nat} {x : Int32} (L' : Array Slot) (hd : decode code pc = .ok (.istore k, 2)) (hl : storeLocals Ls k (.int x) = some L') (r : WP l Z EL it n0 own h0 ws0 Q K h ws cells slots (mkF K.m (pc + 2) L' st)) : WP l Z EL it n0 own h0 ws0 Q K h ws cells slots (mkF K.m pc Ls (.int x :: st)) :=
  WP.step (fun _ _ _ P _ k => XS.istore P.1.here C.exec rfl (hb C.bytes hd) rfl hl k) r
theorem Ok.astoreN (C : Ok l Z a0 EL it n0 own h0 ws0 Q code maxL ret nm rm K) {k : Fin 4} {x : Value} (L' : Array Slot) (hd : decode code pc = .ok (.astore_n k, 1)) (hv : x.isRef = true) (hl : storeLocals Ls k.val x = some L') (r : WP l Z EL it n0 own h0 ws0 Q K h ws cells slots (mkF K.m (pc + 1) L' st)) : WP l Z EL it n0 own h0 ws0 Q K h ws cells slots (mkF K.m pc Ls (x :: st)) :=
  WP.step (fun _ _ _ P _ k => XS.astoreN P.1.here C.exec rfl (hb C.bytes hd) rfl hv hl k) r
theorem Ok.astore (C : Ok l Z a0 EL it n0 own h0 ws0 Q code maxL ret nm rm K) {k : Nat} {x : Value} (L' : Array Slot) (hd : decode code pc = .ok (.astore k, 2)) (hv : x.isRef = true) (hl : storeLocals Ls k x = some L') (r : WP l Z EL it n0 own h0 ws0 Q K h ws cells slots (mkF K.m (pc + 2) L' st)) : WP l Z EL it n0 own h0 ws0 Q K h ws cells slots (mkF K.m pc Ls (x :: st)) :=
  WP.step (fun _ _ _ P _ k => XS.astore P.1.here C.exec rfl (hb C.bytes hd) rfl hv hl k) r
theorem Ok.lstoreN (C : Ok l Z a0 EL it n0 own h0 ws0 Q code maxL ret nm rm K) {k : Fin 4} {x : Int64} (L' : Array Slot) (hd : decode code pc = .ok (.lstore_n k, 1)) (hl : storeLocals Ls k.val (.long x) = some L') (r : WP l Z EL it n0 own h0 ws0 Q K h ws cells slots (mkF K.m (pc + 1) L' st)) : WP l Z EL it n0 own h0 ws0 Q K h ws cells slots (mkF K.m pc Ls (.long x :: st)) :=
  WP.step (fun _ _ _ P _ k => XS.lstoreN P.1.here C.exec rfl (hb C.bytes hd) rfl hl k) r
theorem Ok.lstore (C : Ok l Z a0 EL it n0 own h0 ws0 Q code maxL ret nm rm K) {k : Nat} {x : Int64} (L' : Array Slot) (hd : decode code pc = .ok (.lstore k, 2)) (hl : storeLocals Ls k (.long x) = some L') (r : WP l Z EL it n0 own h0 ws0 Q K h ws cells slots (mkF K.m (pc + 2) L' st)) : WP l Z EL it n0 own h0 ws0 Q K h ws cells slots (mkF K.m pc Ls (.long x :: st)) :=
  WP.step (fun _ _ _ P _ k => XS.lstore P.1.here C.exec rfl (hb C.bytes hd) rfl hl k) r
theorem Ok.iinc (C : Ok l Z a0 EL it n0 own h0 ws0 Q code maxL ret nm rm K) {k : Nat} {cst : Int} {x z : Int32} (L' : Array Slot) (hd : decode code pc = .ok (.iinc k cst, 3)) (hl : Ls[k]? = some (.val (.int x))) (hz : Int32.ofInt cst = z) (hl' : storeLocals Ls k (.int (x + z)) = some L') (r : WP l Z EL it n0 own h0 ws0 Q K h ws cells slots (mkF K.m (pc + 3) L' st)) : WP l Z EL it n0 own h0 ws0 Q K h ws cells slots (mkF K.m pc Ls st) := by
  subst hz; exact WP.step (fun _ _ _ P _ k => XS.iinc P.1.here C.exec rfl (hb C.bytes hd) hl hl' k) r
theorem Ok.goto (C : Ok l Z a0 EL it n0 own h0 ws0 Q code maxL ret nm rm K) {o : Int} (pc' : Nat) (hd : decode code pc = .ok (.goto o, 3)) (ho : 0 ≤ (pc : Int) + o) (hp : ((pc : Int) + o).toNat = pc') (r : WP l Z EL it n0 own h0 ws0 Q K h ws cells slots (mkF K.m pc' Ls st)) : WP l Z EL it n0 own h0 ws0 Q K h ws cells slots (mkF K.m pc Ls st) :=
  WP.step (fun _ _ _ P _ k => XS.goto P.1.here C.exec rfl rfl (hb C.bytes hd) ho hp k) r
/-! branches -/
theorem Ok.icmp (C : Ok l Z a0 EL it n0 own h0 ws0 Q code maxL ret nm rm K) {cd : ClassFile.Cond} {x y : Int32} {o : Int} (pc' : Nat) (hd : decode code pc = .ok (.if_icmp cd o, 3)) (ho : 0 ≤ (pc : Int) + o) (hp : ((pc : Int) + o).toNat = pc') (t : if_icmp.holds cd x y = true → WP l Z EL it n0 own h0 ws0 Q K h ws cells slots (mkF K.m pc' Ls st)) (f : if_icmp.holds cd x y = false → WP l Z EL it n0 own h0 ws0 Q K h ws cells slots (mkF K.m (pc + 3) Ls st)) : WP l Z EL it n0 own h0 ws0 Q K h ws cells slots (mkF K.m pc Ls (.int y :: .int x :: st)) := by
  cases q : if_icmp.holds cd x y
  · exact WP.step (fun _ _ _ P _ k => XS.icmpNo P.1.here C.exec rfl (hb C.bytes hd) rfl q k) (f q)
  · exact WP.step (fun _ _ _ P _ k => XS.icmpYes P.1.here C.exec rfl rfl (hb C.bytes hd) rfl q ho hp k) (t q)
theorem Ok.ifc (C : Ok l Z a0 EL it n0 own h0 ws0 Q code maxL ret nm rm K) {cd : ClassFile.Cond} {x : Int32} {o : Int} (pc' : Nat) (hd : decode code pc = .ok (.ifCond cd o, 3)) (ho : 0 ≤ (pc : Int) + o) (hp : ((pc : Int) + o).toNat = pc') (t : if_icmp.holds cd x 0 = true → WP l Z EL it n0 own h0 ws0 Q K h ws cells slots (mkF K.m pc' Ls st)) (f : if_icmp.holds cd x 0 = false → WP l Z EL it n0 own h0 ws0 Q K h ws cells slots (mkF K.m (pc + 3) Ls st)) : WP l Z EL it n0 own h0 ws0 Q K h ws cells slots (mkF K.m pc Ls (.int x :: st)) := by
  cases q : if_icmp.holds cd x 0
  · exact WP.step (fun _ _ _ P _ k => XS.ifNo P.1.here C.exec rfl (hb C.bytes hd) rfl (by rw [if0]; exact q) k) (f q)
  · exact WP.step (fun _ _ _ P _ k => XS.ifYes P.1.here C.exec rfl rfl (hb C.bytes hd) rfl (by rw [if0]; exact q) ho hp k) (t q)
theorem hEq (x y : Int32) : (if_icmp.holds .eq x y = true ↔ x.toInt = y.toInt) ∧ (if_icmp.holds .eq x y = false ↔ x.toInt ≠ y.toInt) := by simp [if_icmp.holds, Int32.toInt_inj]
theorem hNe (x y : Int32) : (if_icmp.holds .ne x y = true ↔ x.toInt ≠ y.toInt) ∧ (if_icmp.holds .ne x y = false ↔ x.toInt = y.toInt) := by simp [if_icmp.holds, Int32.toInt_inj]
theorem hLt (x y : Int32) : (if_icmp.holds .lt x y = true ↔ x.toInt < y.toInt) ∧ (if_icmp.holds .lt x y = false ↔ y.toInt ≤ x.toInt) := by simp [if_icmp.holds, Int32.lt_iff_toInt_lt, Int32.le_iff_toInt_le]
theorem hGe (x y : Int32) : (if_icmp.holds .ge x y = true ↔ y.toInt ≤ x.toInt) ∧ (if_icmp.holds .ge x y = false ↔ x.toInt < y.toInt) := by simp [if_icmp.holds, Int32.lt_iff_toInt_lt, Int32.le_iff_toInt_le]
theorem hGt (x y : Int32) : (if_icmp.holds .gt x y = true ↔ y.toInt < x.toInt) ∧ (if_icmp.holds .gt x y = false ↔ x.toInt ≤ y.toInt) := by simp [if_icmp.holds, Int32.lt_iff_toInt_lt, Int32.le_iff_toInt_le]
theorem hLe (x y : Int32) : (if_icmp.holds .le x y = true ↔ x.toInt ≤ y.toInt) ∧ (if_icmp.holds .le x y = false ↔ y.toInt < x.toInt) := by simp [if_icmp.holds, Int32.lt_iff_toInt_lt, Int32.le_iff_toInt_le]
theorem Ok.icmp_eq (C : Ok l Z a0 EL it n0 own h0 ws0 Q code maxL ret nm rm K) {x y : Int32} {o : Int} (pc' : Nat) (hd : decode code pc = .ok (.if_icmp .eq o, 3)) (ho : 0 ≤ (pc : Int) + o) (hp : ((pc : Int) + o).toNat = pc') (t : x.toInt = y.toInt → WP l Z EL it n0 own h0 ws0 Q K h ws cells slots (mkF K.m pc' Ls st)) (f : x.toInt ≠ y.toInt → WP l Z EL it n0 own h0 ws0 Q K h ws cells slots (mkF K.m (pc + 3) Ls st)) : WP l Z EL it n0 own h0 ws0 Q K h ws cells slots (mkF K.m pc Ls (.int y :: .int x :: st)) :=
  C.icmp pc' hd ho hp (fun q => t ((hEq x y).1.mp q)) (fun q => f ((hEq x y).2.mp q))
theorem Ok.ifc_eq (C : Ok l Z a0 EL it n0 own h0 ws0 Q code maxL ret nm rm K) {x : Int32} {o : Int} (pc' : Nat) (hd : decode code pc = .ok (.ifCond .eq o, 3)) (ho : 0 ≤ (pc : Int) + o) (hp : ((pc : Int) + o).toNat = pc') (t : x.toInt = 0 → WP l Z EL it n0 own h0 ws0 Q K h ws cells slots (mkF K.m pc' Ls st)) (f : x.toInt ≠ 0 → WP l Z EL it n0 own h0 ws0 Q K h ws cells slots (mkF K.m (pc + 3) Ls st)) : WP l Z EL it n0 own h0 ws0 Q K h ws cells slots (mkF K.m pc Ls (.int x :: st)) :=
  C.ifc pc' hd ho hp (fun q => t ((hEq x 0).1.mp q)) (fun q => f ((hEq x 0).2.mp q))
theorem Ok.icmp_ne (C : Ok l Z a0 EL it n0 own h0 ws0 Q code maxL ret nm rm K) {x y : Int32} {o : Int} (pc' : Nat) (hd : decode code pc = .ok (.if_icmp .ne o, 3)) (ho : 0 ≤ (pc : Int) + o) (hp : ((pc : Int) + o).toNat = pc') (t : x.toInt ≠ y.toInt → WP l Z EL it n0 own h0 ws0 Q K h ws cells slots (mkF K.m pc' Ls st)) (f : x.toInt = y.toInt → WP l Z EL it n0 own h0 ws0 Q K h ws cells slots (mkF K.m (pc + 3) Ls st)) : WP l Z EL it n0 own h0 ws0 Q K h ws cells slots (mkF K.m pc Ls (.int y :: .int x :: st)) :=
  C.icmp pc' hd ho hp (fun q => t ((hNe x y).1.mp q)) (fun q => f ((hNe x y).2.mp q))
theorem Ok.ifc_ne (C : Ok l Z a0 EL it n0 own h0 ws0 Q code maxL ret nm rm K) {x : Int32} {o : Int} (pc' : Nat) (hd : decode code pc = .ok (.ifCond .ne o, 3)) (ho : 0 ≤ (pc : Int) + o) (hp : ((pc : Int) + o).toNat = pc') (t : x.toInt ≠ 0 → WP l Z EL it n0 own h0 ws0 Q K h ws cells slots (mkF K.m pc' Ls st)) (f : x.toInt = 0 → WP l Z EL it n0 own h0 ws0 Q K h ws cells slots (mkF K.m (pc + 3) Ls st)) : WP l Z EL it n0 own h0 ws0 Q K h ws cells slots (mkF K.m pc Ls (.int x :: st)) :=
  C.ifc pc' hd ho hp (fun q => t ((hNe x 0).1.mp q)) (fun q => f ((hNe x 0).2.mp q))
theorem Ok.icmp_lt (C : Ok l Z a0 EL it n0 own h0 ws0 Q code maxL ret nm rm K) {x y : Int32} {o : Int} (pc' : Nat) (hd : decode code pc = .ok (.if_icmp .lt o, 3)) (ho : 0 ≤ (pc : Int) + o) (hp : ((pc : Int) + o).toNat = pc') (t : x.toInt < y.toInt → WP l Z EL it n0 own h0 ws0 Q K h ws cells slots (mkF K.m pc' Ls st)) (f : y.toInt ≤ x.toInt → WP l Z EL it n0 own h0 ws0 Q K h ws cells slots (mkF K.m (pc + 3) Ls st)) : WP l Z EL it n0 own h0 ws0 Q K h ws cells slots (mkF K.m pc Ls (.int y :: .int x :: st)) :=
  C.icmp pc' hd ho hp (fun q => t ((hLt x y).1.mp q)) (fun q => f ((hLt x y).2.mp q))
theorem Ok.ifc_lt (C : Ok l Z a0 EL it n0 own h0 ws0 Q code maxL ret nm rm K) {x : Int32} {o : Int} (pc' : Nat) (hd : decode code pc = .ok (.ifCond .lt o, 3)) (ho : 0 ≤ (pc : Int) + o) (hp : ((pc : Int) + o).toNat = pc') (t : x.toInt < 0 → WP l Z EL it n0 own h0 ws0 Q K h ws cells slots (mkF K.m pc' Ls st)) (f : 0 ≤ x.toInt → WP l Z EL it n0 own h0 ws0 Q K h ws cells slots (mkF K.m (pc + 3) Ls st)) : WP l Z EL it n0 own h0 ws0 Q K h ws cells slots (mkF K.m pc Ls (.int x :: st)) :=
  C.ifc pc' hd ho hp (fun q => t ((hLt x 0).1.mp q)) (fun q => f ((hLt x 0).2.mp q))
theorem Ok.icmp_ge (C : Ok l Z a0 EL it n0 own h0 ws0 Q code maxL ret nm rm K) {x y : Int32} {o : Int} (pc' : Nat) (hd : decode code pc = .ok (.if_icmp .ge o, 3)) (ho : 0 ≤ (pc : Int) + o) (hp : ((pc : Int) + o).toNat = pc') (t : y.toInt ≤ x.toInt → WP l Z EL it n0 own h0 ws0 Q K h ws cells slots (mkF K.m pc' Ls st)) (f : x.toInt < y.toInt → WP l Z EL it n0 own h0 ws0 Q K h ws cells slots (mkF K.m (pc + 3) Ls st)) : WP l Z EL it n0 own h0 ws0 Q K h ws cells slots (mkF K.m pc Ls (.int y :: .int x :: st)) :=
  C.icmp pc' hd ho hp (fun q => t ((hGe x y).1.mp q)) (fun q => f ((hGe x y).2.mp q))
theorem Ok.ifc_ge (C : Ok l Z a0 EL it n0 own h0 ws0 Q code maxL ret nm rm K) {x : Int32} {o : Int} (pc' : Nat) (hd : decode code pc = .ok (.ifCond .ge o, 3)) (ho : 0 ≤ (pc : Int) + o) (hp : ((pc : Int) + o).toNat = pc') (t : 0 ≤ x.toInt → WP l Z EL it n0 own h0 ws0 Q K h ws cells slots (mkF K.m pc' Ls st)) (f : x.toInt < 0 → WP l Z EL it n0 own h0 ws0 Q K h ws cells slots (mkF K.m (pc + 3) Ls st)) : WP l Z EL it n0 own h0 ws0 Q K h ws cells slots (mkF K.m pc Ls (.int x :: st)) :=
  C.ifc pc' hd ho hp (fun q => t ((hGe x 0).1.mp q)) (fun q => f ((hGe x 0).2.mp q))
theorem Ok.icmp_gt (C : Ok l Z a0 EL it n0 own h0 ws0 Q code maxL ret nm rm K) {x y : Int32} {o : Int} (pc' : Nat) (hd : decode code pc = .ok (.if_icmp .gt o, 3)) (ho : 0 ≤ (pc : Int) + o) (hp : ((pc : Int) + o).toNat = pc') (t : y.toInt < x.toInt → WP l Z EL it n0 own h0 ws0 Q K h ws cells slots (mkF K.m pc' Ls st)) (f : x.toInt ≤ y.toInt → WP l Z EL it n0 own h0 ws0 Q K h ws cells slots (mkF K.m (pc + 3) Ls st)) : WP l Z EL it n0 own h0 ws0 Q K h ws cells slots (mkF K.m pc Ls (.int y :: .int x :: st)) :=
  C.icmp pc' hd ho hp (fun q => t ((hGt x y).1.mp q)) (fun q => f ((hGt x y).2.mp q))
theorem Ok.ifc_gt (C : Ok l Z a0 EL it n0 own h0 ws0 Q code maxL ret nm rm K) {x : Int32} {o : Int} (pc' : Nat) (hd : decode code pc = .ok (.ifCond .gt o, 3)) (ho : 0 ≤ (pc : Int) + o) (hp : ((pc : Int) + o).toNat = pc') (t : 0 < x.toInt → WP l Z EL it n0 own h0 ws0 Q K h ws cells slots (mkF K.m pc' Ls st)) (f : x.toInt ≤ 0 → WP l Z EL it n0 own h0 ws0 Q K h ws cells slots (mkF K.m (pc + 3) Ls st)) : WP l Z EL it n0 own h0 ws0 Q K h ws cells slots (mkF K.m pc Ls (.int x :: st)) :=
  C.ifc pc' hd ho hp (fun q => t ((hGt x 0).1.mp q)) (fun q => f ((hGt x 0).2.mp q))
theorem Ok.icmp_le (C : Ok l Z a0 EL it n0 own h0 ws0 Q code maxL ret nm rm K) {x y : Int32} {o : Int} (pc' : Nat) (hd : decode code pc = .ok (.if_icmp .le o, 3)) (ho : 0 ≤ (pc : Int) + o) (hp : ((pc : Int) + o).toNat = pc') (t : x.toInt ≤ y.toInt → WP l Z EL it n0 own h0 ws0 Q K h ws cells slots (mkF K.m pc' Ls st)) (f : y.toInt < x.toInt → WP l Z EL it n0 own h0 ws0 Q K h ws cells slots (mkF K.m (pc + 3) Ls st)) : WP l Z EL it n0 own h0 ws0 Q K h ws cells slots (mkF K.m pc Ls (.int y :: .int x :: st)) :=
  C.icmp pc' hd ho hp (fun q => t ((hLe x y).1.mp q)) (fun q => f ((hLe x y).2.mp q))
theorem Ok.ifc_le (C : Ok l Z a0 EL it n0 own h0 ws0 Q code maxL ret nm rm K) {x : Int32} {o : Int} (pc' : Nat) (hd : decode code pc = .ok (.ifCond .le o, 3)) (ho : 0 ≤ (pc : Int) + o) (hp : ((pc : Int) + o).toNat = pc') (t : x.toInt ≤ 0 → WP l Z EL it n0 own h0 ws0 Q K h ws cells slots (mkF K.m pc' Ls st)) (f : 0 < x.toInt → WP l Z EL it n0 own h0 ws0 Q K h ws cells slots (mkF K.m (pc + 3) Ls st)) : WP l Z EL it n0 own h0 ws0 Q K h ws cells slots (mkF K.m pc Ls (.int x :: st)) :=
  C.ifc pc' hd ho hp (fun q => t ((hLe x 0).1.mp q)) (fun q => f ((hLe x 0).2.mp q))
theorem Ok.ifnullY (C : Ok l Z a0 EL it n0 own h0 ws0 Q code maxL ret nm rm K) {o : Int} (pc' : Nat) (hd : decode code pc = .ok (.ifnull o, 3)) (ho : 0 ≤ (pc : Int) + o) (hp : ((pc : Int) + o).toNat = pc') (r : WP l Z EL it n0 own h0 ws0 Q K h ws cells slots (mkF K.m pc' Ls st)) : WP l Z EL it n0 own h0 ws0 Q K h ws cells slots (mkF K.m pc Ls (.null :: st)) :=
  WP.step (fun _ _ _ P _ k => XS.ifnullYes P.1.here C.exec rfl rfl (hb C.bytes hd) rfl ho hp k) r
theorem Ok.ifnullN (C : Ok l Z a0 EL it n0 own h0 ws0 Q code maxL ret nm rm K) {o : Int} {b : Nat} (hd : decode code pc = .ok (.ifnull o, 3)) (r : WP l Z EL it n0 own h0 ws0 Q K h ws cells slots (mkF K.m (pc + 3) Ls st)) : WP l Z EL it n0 own h0 ws0 Q K h ws cells slots (mkF K.m pc Ls (.ref b :: st)) :=
  WP.step (fun _ _ _ P _ k => XS.ifnullNo P.1.here C.exec rfl (hb C.bytes hd) rfl k) r
theorem Ok.ifnonnullY (C : Ok l Z a0 EL it n0 own h0 ws0 Q code maxL ret nm rm K) {o : Int} {b : Nat} (pc' : Nat) (hd : decode code pc = .ok (.ifnonnull o, 3)) (ho : 0 ≤ (pc : Int) + o) (hp : ((pc : Int) + o).toNat = pc') (r : WP l Z EL it n0 own h0 ws0 Q K h ws cells slots (mkF K.m pc' Ls st)) : WP l Z EL it n0 own h0 ws0 Q K h ws cells slots (mkF K.m pc Ls (.ref b :: st)) :=
  WP.step (fun _ _ _ P _ k => XS.ifnonnullYes P.1.here C.exec rfl rfl (hb C.bytes hd) rfl ho hp k) r
theorem Ok.ifnonnullN (C : Ok l Z a0 EL it n0 own h0 ws0 Q code maxL ret nm rm K) {o : Int} (hd : decode code pc = .ok (.ifnonnull o, 3)) (r : WP l Z EL it n0 own h0 ws0 Q K h ws cells slots (mkF K.m (pc + 3) Ls st)) : WP l Z EL it n0 own h0 ws0 Q K h ws cells slots (mkF K.m pc Ls (.null :: st)) :=
  WP.step (fun _ _ _ P _ k => XS.ifnonnullNo P.1.here C.exec rfl (hb C.bytes hd) rfl k) r
theorem Ok.acmp (C : Ok l Z a0 EL it n0 own h0 ws0 Q code maxL ret nm rm K) {cd : ACond} {x y : Value} {o : Int} (pc' : Nat) (same : Bool) (hd : decode code pc = .ok (.if_acmp cd o, 3)) (h1 : x.isRef = true) (h2 : y.isRef = true) (hq : decide (x = y) = same) (ho : 0 ≤ (pc : Int) + o) (hp : pc' = if acV cd same = true then ((pc : Int) + o).toNat else pc + 3) (r : WP l Z EL it n0 own h0 ws0 Q K h ws cells slots (mkF K.m pc' Ls st)) : WP l Z EL it n0 own h0 ws0 Q K h ws cells slots (mkF K.m pc Ls (y :: x :: st)) :=
  WP.step (fun _ _ _ P _ k => RoadKit.acmp P.1 C.exec (g := mkF K.m pc Ls (y :: x :: st)) rfl h1 h2 rfl (hb C.bytes hd) rfl hq ho hp k) r
theorem Ok.tswIn (C : Ok l Z a0 EL it n0 own h0 ws0 Q code maxL ret nm rm K) {dflt low high : Int} {offs : Array Int} {len : Nat} {o : Int} {i : Int32} (pc' : Nat) (hd : decode code pc = .ok (.tableswitch dflt low high offs, len)) (hin : ¬ (i.toInt < low ∨ i.toInt > high)) (hoff : offs[(i.toInt - low).toNat]? = some o) (ho : 0 ≤ (pc : Int) + o) (hp : ((pc : Int) + o).toNat = pc') (r : WP l Z EL it n0 own h0 ws0 Q K h ws cells slots (mkF K.m pc' Ls st)) : WP l Z EL it n0 own h0 ws0 Q K h ws cells slots (mkF K.m pc Ls (.int i :: st)) :=
  WP.step (fun _ _ _ P _ k => XS.tswIn P.1.here C.exec rfl rfl (hb C.bytes hd) rfl hin hoff ho hp k) r
theorem Ok.tswOut (C : Ok l Z a0 EL it n0 own h0 ws0 Q code maxL ret nm rm K) {dflt low high : Int} {offs : Array Int} {len : Nat} {i : Int32} (pc' : Nat) (hd : decode code pc = .ok (.tableswitch dflt low high offs, len)) (hout : i.toInt < low ∨ i.toInt > high) (ho : 0 ≤ (pc : Int) + dflt) (hp : ((pc : Int) + dflt).toNat = pc') (r : WP l Z EL it n0 own h0 ws0 Q K h ws cells slots (mkF K.m pc' Ls st)) : WP l Z EL it n0 own h0 ws0 Q K h ws cells slots (mkF K.m pc Ls (.int i :: st)) :=
  WP.step (fun _ _ _ P _ k => XS.tswOut P.1.here C.exec rfl rfl (hb C.bytes hd) rfl hout ho hp k) r
/-! the heap -/
theorem Ok.getF (C : Ok l Z a0 EL it n0 own h0 ws0 Q code maxL ret nm rm K) {R0 O n d host : String} {index : Nat} {a : Nat} {v : Value} (w : (Jvm.Cond.fieldLink own index R0 n d).before a0 Z = true ∨ (Jvm.Cond.fieldLinkNest own index R0 n d host).before a0 Z = true) (via : Via Z R0 O n d) (F : Fld Z h a O n d v) (hd : decode code pc = .ok (.getfield index, 3))
    (r : WP l Z EL it n0 own h0 ws0 Q K h ws cells slots (mkF K.m (pc + 3) Ls (v :: st))) : WP l Z EL it n0 own h0 ws0 Q K h ws cells slots (mkF K.m pc Ls (.ref a :: st)) := by
  intro vm T locs P
  obtain ⟨T', X', e', s'⟩ := RoadKit.getF P.1 C.exec P.2.2.2.1 P.2.2.2.2.1 w via P.2.1 F (g := mkF K.m pc Ls (.ref a :: st)) rfl rfl (hb C.bytes hd)
  exact Goes.of s' (r vm T' locs ⟨X', e', P.2.2⟩)
theorem Ok.getS (C : Ok l Z a0 EL it n0 own h0 ws0 Q code maxL ret nm rm K) {R0 O n d : String} {index : Nat} {v : Value} (w : (Jvm.Cond.fieldLink own index R0 n d).before a0 Z = true) (via : Via Z R0 O n d) (F : Sta Z Z.heap O n d v) (hd : decode code pc = .ok (.getstatic index, 3))
    (r : WP l Z EL it n0 own h0 ws0 Q K h ws cells slots (mkF K.m (pc + 3) Ls (v :: st))) : WP l Z EL it n0 own h0 ws0 Q K h ws cells slots (mkF K.m pc Ls st) := by
  intro vm T locs P
  obtain ⟨T', X', e', s'⟩ := RoadKit.getS (host := "") P.1 C.exec P.2.2.2.1 P.2.2.2.2.1 w via P.2.1 (F.ext P.2.2.2.2.2.2.2.2.1.2) (g := mkF K.m pc Ls st) rfl (hb C.bytes hd)
  exact Goes.of s' (r vm T' locs ⟨X', e', P.2.2⟩)
theorem Ok.castY (C : Ok l Z a0 EL it n0 own h0 ws0 Q code maxL ret nm rm K) {J : String} {index : Nat} {a : Nat} (w : (Jvm.Cond.classLink own index J).before a0 Z = true) (F : Ins Z h a J true) (hd : decode code pc = .ok (.checkcast index, 3))
    (r : WP l Z EL it n0 own h0 ws0 Q K h ws cells slots (mkF K.m (pc + 3) Ls (.ref a :: st))) : WP l Z EL it n0 own h0 ws0 Q K h ws cells slots (mkF K.m pc Ls (.ref a :: st)) := by
  intro vm T locs P
  obtain ⟨T', X', e', s'⟩ := RoadKit.castY P.1 C.exec P.2.2.2.1 P.2.2.2.2.1 w P.2.1 F (g := mkF K.m pc Ls (.ref a :: st)) rfl rfl (hb C.bytes hd)
  exact Goes.of s' (r vm T' locs ⟨X', e', P.2.2⟩)
theorem Ok.instY (C : Ok l Z a0 EL it n0 own h0 ws0 Q code maxL ret nm rm K) {J : String} {index : Nat} {a : Nat} (w : (Jvm.Cond.classLink own index J).before a0 Z = true) (F : Ins Z h a J true) (hd : decode code pc = .ok (.instanceof index, 3))
    (r : WP l Z EL it n0 own h0 ws0 Q K h ws cells slots (mkF K.m (pc + 3) Ls (.int 1 :: st))) : WP l Z EL it n0 own h0 ws0 Q K h ws cells slots (mkF K.m pc Ls (.ref a :: st)) := by
  intro vm T locs P
  obtain ⟨T', X', e', s'⟩ := RoadKit.instY P.1 C.exec P.2.2.2.1 P.2.2.2.2.1 w P.2.1 F (g := mkF K.m pc Ls (.ref a :: st)) rfl rfl (hb C.bytes hd)
  exact Goes.of s' (r vm T' locs ⟨X', e', P.2.2⟩)
theorem keep_ext {h h' : Heap} (E : Ext h h') : Keep h h' [] := (Keep.refl h []).ext E
theorem Ok.new (C : Ok l Z a0 EL it n0 own h0 ws0 Q code maxL ret nm rm K) {J : String} {index n : Nat} (w : (Jvm.Cond.classLink own index J).before a0 Z = true) (wi : (Jvm.Cond.instantiable J n).before a0 Z = true) (wz : (Jvm.Cond.initialized J).before a0 Z = true) (hd : decode code pc = .ok (.new index, 3)) (hc : cells + 1 ≤ rm.cells) (hl : slots + n ≤ rm.slots)
    (r : ∀ (h' : Heap) (a : Nat), @Eq Nat a h.size → h.size < h'.size → n0 ≤ a → Keep h h' [] → Exa Z h' a J → (∀ {O nm d : String} {ty : FieldType}, RoadKit.Laid Z a0 J O nm d → parseFieldDescriptor d = some ty → Fld Z h' a O nm d (defaultValue ty)) → WP l Z EL it n0 own h0 ws0 Q K h' (a :: ws) (cells + 1) (slots + n) (mkF K.m (pc + 3) Ls (.ref a :: st))) :
    WP l Z EL it n0 own h0 ws0 Q K h ws cells slots (mkF K.m pc Ls st) := by
  intro vm T locs P
  obtain ⟨T', h', X', e', E, A, D, -, s'⟩ := newO P.1 C.exec P.2.2.2.1 P.2.2.2.2.1 w wi wz P.2.1 (g := mkF K.m pc Ls st) rfl (hb C.bytes hd) (by rw [C.room]; exact hc) (by rw [C.room]; exact hl)
  exact Goes.of s' (r h' h.size rfl A.lt (P.2.2.2.2.2.2.2.2.1.1 ▸ P.2.2.2.2.2.2.2.2.1.2.1) (keep_ext E) A D vm T' locs (P.new X' e' E A.lt))
theorem Ok.putF (C : Ok l Z a0 EL it n0 own h0 ws0 Q code maxL ret nm rm K) {R0 O n d host J : String} {index kk : Nat} {ty : FieldType} {a : Nat} {v old : Value} (w : (Jvm.Cond.fieldLink own index R0 n d).before a0 Z = true ∨ (Jvm.Cond.fieldLinkNest own index R0 n d host).before a0 Z = true) (via : Via Z R0 O n d) (F : Fld Z h a O n d old) (E : Exa Z h a J)
    (L : (Jvm.Cond.lays J O n d).before a0 Z = true ∨ ((Jvm.Cond.laysFinal J O n d).before a0 Z = true ∧ own = O ∧ nm = "<init>")) (wi : (Jvm.Cond.instantiable J kk).before a0 Z = true) (hty : parseFieldDescriptor d = some ty) (hn : narrow ty v = v) (hf : fits ty v = true) (hd : decode code pc = .ok (.putfield index, 3)) (ha : a ∈ ws)
    (r : ∀ h' : Heap, h'.size = h.size → Keep h h' [a] → Exa Z h' a J → Fld Z h' a O n d v → (∀ {O' n' d' : String} {u : Value}, RoadKit.slotOf Z O' n' d' ≠ RoadKit.slotOf Z O n d → Fld Z h a O' n' d' u → Fld Z h' a O' n' d' u) → WP l Z EL it n0 own h0 ws0 Q K h' ws cells slots (mkF K.m (pc + 3) Ls st)) :
    WP l Z EL it n0 own h0 ws0 Q K h ws cells slots (mkF K.m pc Ls (v :: .ref a :: st)) := by
  intro vm T locs P
  obtain ⟨T', h', X', e', W, s'⟩ := RoadKit.putF P.1 C.exec P.2.2.2.1 P.2.2.2.2.1 w via P.2.1 F E (L.imp id fun q => ⟨q.1, q.2.1, C.named.trans q.2.2⟩) wi hty hn hf (g := mkF K.m pc Ls (v :: .ref a :: st)) rfl rfl (hb C.bytes hd)
  exact Goes.of s' (r h' W.size (Keep.of_wr W) (E.wr W) (F.same W) (fun q G => G.other W (Or.inr q)) vm T' _ (P.wr ha X' e' W))
/-- an array and all that it holds -/
def Ary (Z : State) (h : Heap) (a : Nat) (ty : FieldType) (vs : List Value) : Prop := ∃ c : Cell, RoadKit.Arr Z h a c ty ∧ c.slots.toList = vs ∧ vs.length < 2 ^ 31 ∧ ∀ v ∈ vs, fits ty v = true
theorem Ary.lt {a : Nat} {ty : FieldType} {vs : List Value} (A : Ary Z h a ty vs) : a < h.size := by obtain ⟨c, A, -⟩ := A; exact A.lt
theorem Ary.keep {h' : Heap} {a : Nat} {ty : FieldType} {vs : List Value} {us : List Addr} (A : Ary Z h a ty vs) (Kp : Keep h h' us) (q : a ∉ us) : Ary Z h' a ty vs := by
  obtain ⟨c, A, r⟩ := A; exact ⟨c, ⟨Kp.2.1 a c A.1 q, A.2⟩, r⟩
theorem Ary.len {a : Nat} {ty : FieldType} {vs : List Value} (A : Ary Z h a ty vs) : vs.length < 2 ^ 31 := by obtain ⟨c, -, -, r, -⟩ := A; exact r
theorem Ary.arv {a : Nat} {ty : FieldType} {vs : List Value} {n : Int32} {d : Value} (A : Ary Z h a ty vs) (hn : n.toInt = vs.length) : ∃ k, Arv Z h a k ty n vs d := by
  obtain ⟨c, A, r, q, f⟩ := A
  subst r
  have hz : c.slots.size = n.toNatClampNeg := by
    rw [← Int32.toNat_toInt, hn]; simp
  refine ⟨c.cls, c, A, rfl, hz, fun w => ?_, fun k hk => ?_, fun i hi => ?_⟩
  · rw [Int32.lt_iff_toInt_lt, hn] at w
    have : (0 : Int32).toInt = 0 := rfl
    omega
  · simp [hk]
  · have : c.slots.toList.getD i d = c.slots[i] := by simp [hi]
    rw [this]
    exact f _ (by simp)
theorem Ary.of_arv {a : Nat} {ty : FieldType} {vs : List Value} {n : Int32} {d : Value} {k : ClassId} (A : Arv Z h a k ty n vs d) (hn : n.toNatClampNeg = vs.length) : Ary Z h a ty vs := by
  obtain ⟨c, A, -, r2, r3, H, G⟩ := A
  have e : c.slots.toList = vs := by
    apply List.ext_getElem?
    intro i
    by_cases hi : i < c.slots.size
    · have q := H i hi
      rw [Array.getElem?_toList, q]
      have hi' : i < vs.length := by omega
      simp [hi']
    · rw [List.getElem?_eq_none (by simpa using hi), List.getElem?_eq_none (by omega)]
  refine ⟨c, A, e, ?_, fun v hv => ?_⟩
  · rw [← hn, ← Int32.toNat_toInt]
    have := n.toInt_lt
    omega
  · obtain ⟨i, hi, rfl⟩ := List.getElem_of_mem hv
    have := G i (by omega)
    simpa [hi] using this
theorem Ok.newarr (C : Ok l Z a0 EL it n0 own h0 ws0 Q code maxL ret nm rm K) {aty : ArrayType} {n : Int32} (k cap : Nat) (w : (Jvm.Cond.arrayClass (newarray.typeOf aty)).before a0 Z = true) (hd : decode code pc = .ok (.newarray aty, 2)) (hn : n.toInt = k) (hk' : k ≤ cap) (hb' : cap * 8 ≤ 536870912) (hc : cells + 1 ≤ rm.cells) (hl : slots + cap ≤ rm.slots)
    (r : ∀ (h' : Heap) (a : Nat), @Eq Nat a h.size → h.size < h'.size → n0 ≤ a → Keep h h' [] → Ary Z h' a (newarray.typeOf aty) (List.replicate k (defaultValue (newarray.typeOf aty))) → WP l Z EL it n0 own h0 ws0 Q K h' (a :: ws) (cells + 1) (slots + cap) (mkF K.m (pc + 2) Ls (.ref a :: st))) :
    WP l Z EL it n0 own h0 ws0 Q K h ws cells slots (mkF K.m pc Ls (.int n :: st)) := by
  intro vm T locs P
  have hk : n.toNatClampNeg = k := by rw [← Int32.toNat_toInt, hn]; simp
  obtain ⟨T', h', cA, X', e', E, A, s'⟩ := newP P.1 C.exec P.2.2.2.1 w P.2.1 (g := mkF K.m pc Ls (.int n :: st)) rfl (hb C.bytes hd) rfl (fun q => by rw [Int32.lt_iff_toInt_lt, hn] at q; have : (0 : Int32).toInt = 0 := rfl; omega) (cap := cap) (hk ▸ hk') hb' (by rw [C.room]; exact hc) (by rw [C.room]; exact hl)
  refine Goes.of s' (r h' h.size rfl A.lt (P.2.2.2.2.2.2.2.2.1.1 ▸ P.2.2.2.2.2.2.2.2.1.2.1) (keep_ext E) ⟨_, A, by simp [newA, hk], ?_, fun v hv => ?_⟩ vm T' locs (P.new X' e' E A.lt))
  · simp; omega
  · obtain ⟨-, rfl⟩ := List.mem_replicate.mp hv
    cases aty <;> rfl
theorem Ok.alen (C : Ok l Z a0 EL it n0 own h0 ws0 Q code maxL ret nm rm K) {a : Nat} {ty : FieldType} {vs : List Value} {n : Int32} (A : Ary Z h a ty vs) (hn : n.toInt = vs.length) (hd : decode code pc = .ok (.arraylength, 1)) (r : WP l Z EL it n0 own h0 ws0 Q K h ws cells slots (mkF K.m (pc + 1) Ls (.int n :: st))) : WP l Z EL it n0 own h0 ws0 Q K h ws cells slots (mkF K.m pc Ls (.ref a :: st)) := by
  intro vm T locs P
  obtain ⟨c, A, q, hl, -⟩ := A
  refine Goes.of (fun t k => P.1.arraylength C.exec (by rw [P.2.1]; exact A.1) (State.isArrayOf_alike P.2.2.2.1.alike A.2.1) (g := mkF K.m pc Ls (.ref a :: st)) rfl rfl (hb C.bytes hd) t ?_) (r vm T locs P)
  have e : c.slots.size.toInt32 = n := by
    apply Int32.toInt_inj.mp
    rw [hn, ← q]
    have : c.slots.size < 2 ^ 31 := by rw [← q] at hl; simpa using hl
    simpa using RoadKit.len_toInt this
  rw [e]; exact k
theorem idx_ok {j : Int32} {i n : Nat} (hj : j.toInt = i) (hi : i < n) : ¬ (j < 0 ∨ n ≤ j.toNatClampNeg) ∧ j.toNatClampNeg = i := by
  have e : j.toNatClampNeg = i := by rw [← Int32.toNat_toInt, hj]; simp
  refine ⟨fun q => ?_, e⟩
  rw [e, Int32.lt_iff_toInt_lt, hj] at q
  have : (0 : Int32).toInt = 0 := rfl
  omega
theorem Ok.caload (C : Ok l Z a0 EL it n0 own h0 ws0 Q code maxL ret nm rm K) {a : Addr} {vs : List Value} {j : Int32} {x : Int32} (i : Nat) (A : Ary Z h a .char vs) (hj : j.toInt = i) (hx : vs[i]? = some (.int x)) (hd : decode code pc = .ok (.caload, 1)) (r : WP l Z EL it n0 own h0 ws0 Q K h ws cells slots (mkF K.m (pc + 1) Ls (.int x :: st))) : WP l Z EL it n0 own h0 ws0 Q K h ws cells slots (mkF K.m pc Ls (.int j :: .ref a :: st)) := by
  intro vm T locs P
  obtain ⟨c, A, q, hl, f⟩ := A
  have hs : c.slots.size = vs.length := by rw [← q]; simp
  have hi : i < vs.length := (List.getElem?_eq_some_iff.mp hx).1
  obtain ⟨hin, hji⟩ := idx_ok hj (hs ▸ hi)
  exact Goes.of (fun t k => P.1.caload C.exec (by rw [P.2.1]; exact A.1) (State.isArrayOf_alike P.2.2.2.1.alike A.2.1) A.2.2 hin (v := .int x) (by rw [hji, ← Array.getElem?_toList, q]; exact hx) (g := mkF K.m pc Ls (.int j :: .ref a :: st)) rfl rfl (hb C.bytes hd) t k) (r vm T locs P)
theorem Ok.baload (C : Ok l Z a0 EL it n0 own h0 ws0 Q code maxL ret nm rm K) {a : Addr} {vs : List Value} {j : Int32} {x : Int32} (i : Nat) (A : Ary Z h a .byte vs) (hj : j.toInt = i) (hx : vs[i]? = some (.int x)) (hd : decode code pc = .ok (.baload, 1)) (r : WP l Z EL it n0 own h0 ws0 Q K h ws cells slots (mkF K.m (pc + 1) Ls (.int x :: st))) : WP l Z EL it n0 own h0 ws0 Q K h ws cells slots (mkF K.m pc Ls (.int j :: .ref a :: st)) := by
  intro vm T locs P
  obtain ⟨c, A, q, hl, f⟩ := A
  have hs : c.slots.size = vs.length := by rw [← q]; simp
  have hi : i < vs.length := (List.getElem?_eq_some_iff.mp hx).1
  obtain ⟨hin, hji⟩ := idx_ok hj (hs ▸ hi)
  exact Goes.of (fun t k => P.1.baloadBytes C.exec (by rw [P.2.1]; exact A.1) (State.isArrayOf_alike P.2.2.2.1.alike A.2.1) A.2.2 hin (v := .int x) (by rw [hji, ← Array.getElem?_toList, q]; exact hx) (g := mkF K.m pc Ls (.int j :: .ref a :: st)) rfl rfl (hb C.bytes hd) t k) (r vm T locs P)
theorem Ok.laload (C : Ok l Z a0 EL it n0 own h0 ws0 Q code maxL ret nm rm K) {a : Addr} {vs : List Value} {j : Int32} {x : Int64} (i : Nat) (A : Ary Z h a .long vs) (hj : j.toInt = i) (hx : vs[i]? = some (.long x)) (hd : decode code pc = .ok (.laload, 1)) (r : WP l Z EL it n0 own h0 ws0 Q K h ws cells slots (mkF K.m (pc + 1) Ls (.long x :: st))) : WP l Z EL it n0 own h0 ws0 Q K h ws cells slots (mkF K.m pc Ls (.int j :: .ref a :: st)) := by
  intro vm T locs P
  obtain ⟨c, A, q, hl, f⟩ := A
  have hs : c.slots.size = vs.length := by rw [← q]; simp
  have hi : i < vs.length := (List.getElem?_eq_some_iff.mp hx).1
  obtain ⟨hin, hji⟩ := idx_ok hj (hs ▸ hi)
  exact Goes.of (fun t k => P.1.laload C.exec (by rw [P.2.1]; exact A.1) (State.isArrayOf_alike P.2.2.2.1.alike A.2.1) A.2.2 hin (v := .long x) (by rw [hji, ← Array.getElem?_toList, q]; exact hx) (g := mkF K.m pc Ls (.int j :: .ref a :: st)) rfl rfl (hb C.bytes hd) t k) (r vm T locs P)
theorem Ary.set {a : Nat} {ty : FieldType} {vs : List Value} {c : Cell} {h' : Heap} {i : Nat} {v : Value} (A : RoadKit.Arr Z h a c ty) (q : c.slots.toList = vs) (hl : vs.length < 2 ^ 31) (f : ∀ v ∈ vs, fits ty v = true) (hv : fits ty v = true) (W : Wr h h' a i v) : Ary Z h' a ty (vs.set i v) := by
  refine ⟨_, A.same W, ?_, by simpa using hl, fun u hu => ?_⟩
  · simp [Cell.setSlot, q]
  · rcases List.mem_or_eq_of_mem_set hu with hu | rfl
    · exact f u hu
    · exact hv
theorem nar_char {x : Int32} (h0 : 0 ≤ x.toInt) (h1 : x.toInt < 65536) : nar .char x = x := by
  apply Int32.toInt_inj.mp
  have q := c_i2c x
  show x.toUInt32.toUInt16.toUInt32.toInt32.toInt = _
  omega
theorem i2c_id {x : Int32} (h0 : 0 ≤ x.toInt) (h1 : x.toInt < 65536) : x.toUInt32.toUInt16.toUInt32.toInt32 = x := nar_char h0 h1
theorem Ok.castore (C : Ok l Z a0 EL it n0 own h0 ws0 Q code maxL ret nm rm K) {a : Nat} {vs : List Value} {j x : Int32} (i : Nat) (A : Ary Z h a .char vs) (hj : j.toInt = i) (hi : i < vs.length) (x0 : 0 ≤ x.toInt) (x1 : x.toInt < 65536) (hd : decode code pc = .ok (.castore, 1)) (ha : a ∈ ws)
    (r : ∀ h' : Heap, h'.size = h.size → Keep h h' [a] → Ary Z h' a .char (vs.set i (.int x)) → WP l Z EL it n0 own h0 ws0 Q K h' ws cells slots (mkF K.m (pc + 1) Ls st)) : WP l Z EL it n0 own h0 ws0 Q K h ws cells slots (mkF K.m pc Ls (.int x :: .int j :: .ref a :: st)) := by
  intro vm T locs P
  obtain ⟨c, A, q, hl, f⟩ := A
  have hs : c.slots.size = vs.length := by rw [← q]; simp
  obtain ⟨hin, hji⟩ := idx_ok hj (hs ▸ hi)
  obtain ⟨T', h', X', e', W, s'⟩ := stC P.1 C.exec P.2.2.2.1 P.2.1 A hin (g := mkF K.m pc Ls (.int x :: .int j :: .ref a :: st)) rfl rfl (hb C.bytes hd)
  have W' := W
  rw [hji, nar_char x0 x1] at W
  exact Goes.of s' (r h' W'.size (Keep.of_wr W') (Ary.set A q hl f (by have := fits_nar_char x; rwa [nar_char x0 x1] at this) W) vm T' _ (P.wr ha X' e' W'))
theorem Ok.bastore (C : Ok l Z a0 EL it n0 own h0 ws0 Q code maxL ret nm rm K) {a : Nat} {vs : List Value} {j x : Int32} (i : Nat) (A : Ary Z h a .byte vs) (hj : j.toInt = i) (hi : i < vs.length) (hd : decode code pc = .ok (.bastore, 1)) (ha : a ∈ ws)
    (r : ∀ h' : Heap, h'.size = h.size → Keep h h' [a] → Ary Z h' a .byte (vs.set i (.int x.toInt8.toInt32)) → WP l Z EL it n0 own h0 ws0 Q K h' ws cells slots (mkF K.m (pc + 1) Ls st)) : WP l Z EL it n0 own h0 ws0 Q K h ws cells slots (mkF K.m pc Ls (.int x :: .int j :: .ref a :: st)) := by
  intro vm T locs P
  obtain ⟨c, A, q, hl, f⟩ := A
  have hs : c.slots.size = vs.length := by rw [← q]; simp
  obtain ⟨hin, hji⟩ := idx_ok hj (hs ▸ hi)
  obtain ⟨T', h', X', e', W, s'⟩ := stB P.1 C.exec P.2.2.2.1 P.2.1 A hin (g := mkF K.m pc Ls (.int x :: .int j :: .ref a :: st)) rfl rfl (hb C.bytes hd)
  have W' := W
  rw [hji] at W
  exact Goes.of s' (r h' W'.size (Keep.of_wr W') (Ary.set A q hl f (fits_nar_byte x) W) vm T' _ (P.wr ha X' e' W'))
theorem Ok.lastore (C : Ok l Z a0 EL it n0 own h0 ws0 Q code maxL ret nm rm K) {a : Nat} {vs : List Value} {j : Int32} {x : Int64} (i : Nat) (A : Ary Z h a .long vs) (hj : j.toInt = i) (hi : i < vs.length) (hd : decode code pc = .ok (.lastore, 1)) (ha : a ∈ ws)
    (r : ∀ h' : Heap, h'.size = h.size → Keep h h' [a] → Ary Z h' a .long (vs.set i (.long x)) → WP l Z EL it n0 own h0 ws0 Q K h' ws cells slots (mkF K.m (pc + 1) Ls st)) : WP l Z EL it n0 own h0 ws0 Q K h ws cells slots (mkF K.m pc Ls (.long x :: .int j :: .ref a :: st)) := by
  intro vm T locs P
  obtain ⟨c, A, q, hl, f⟩ := A
  have hs : c.slots.size = vs.length := by rw [← q]; simp
  obtain ⟨hin, hji⟩ := idx_ok hj (hs ▸ hi)
  obtain ⟨T', h', X', e', W, s'⟩ := stJ P.1 C.exec P.2.2.2.1 P.2.1 A hin (g := mkF K.m pc Ls (.long x :: .int j :: .ref a :: st)) rfl rfl (hb C.bytes hd)
  have W' := W
  rw [hji] at W
  exact Goes.of s' (r h' W'.size (Keep.of_wr W') (Ary.set A q hl f rfl W) vm T' _ (P.wr ha X' e' W'))
/-! ends -/
theorem endMore {s t : State} {o : Outcome} {L : List Loc} {k n k' n' : Nat} (R : ReturnedEndW s o t L k n) (hk : k ≤ k') (hn : n ≤ n') : ReturnedEndW s o t L k' n' := ⟨R.1, R.2.1, R.2.2.1, R.2.2.2.mono hk hn⟩
theorem Ok.leave (C : Ok l Z a0 EL it n0 own h0 ws0 Q code maxL ret nm rm K) {v : Option Value} (hv : ret = none → v = none) (hq : Q v h) (hc : cells ≤ rm.cells) (hl : slots ≤ rm.slots)
    (go : ∀ (T : State) (vm : Vm) (locs : List Loc) (fs : List Frame), Stand K.p l K.e K.R (K.s.setVm vm) K.m K.args K.below K.meth K.c T locs cells slots → (∀ (f : JFrame) (acts : List Action), f.method = K.m → f.locked = none → f.entered = [] → (doReturn K.e (T.setTop f) acts v).1 = T.setFrames fs) → Steps K.p.tables K.e K.below (T.setTop g) (T.setFrames fs)) :
    WP l Z EL it n0 own h0 ws0 Q K h ws cells slots g := by
  intro vm T locs P
  obtain ⟨X, eT, ⟨k, hS, hk⟩, hZ, hown, H, N, Kp, O, Ow⟩ := P
  obtain ⟨fs, hr, h1, h2, hR⟩ := X.leaveW hS (by rw [eT]; exact hk) (v := v) (fun q => hv (C.rets.symm.trans q)) C.unlocked
  have eh : (T.setFrames fs).heap = h := eT
  refine ⟨_, _, go T vm locs fs X hr, h1, h2, v, locs, rfl, ⟨by rw [eh]; exact hq, by rw [eh]; exact Kp, N⟩, ?_, endMore hR (by rw [C.room]; exact hc) (by rw [C.room]; exact hl)⟩
  rw [eh]
  show CHx it Z EL K.s.vm h0 T.vm h
  exact H.trans (CHx.still (CHv.at X hZ C.ew H.1))
theorem Ok.return_ (C : Ok l Z a0 EL it n0 own h0 ws0 Q code maxL ret nm rm K) (hr : ret = none) (hd : decode code pc = .ok (.return_, 1)) (hc : cells ≤ rm.cells) (hl : slots ≤ rm.slots) (hq : Q none h) : WP l Z EL it n0 own h0 ws0 Q K h ws cells slots (mkF K.m pc Ls []) :=
  C.leave (v := none) (fun _ => rfl) hq hc hl fun T vm locs fs X hl => X.returnOut C.exec (C.rets.trans hr) (hb C.bytes hd) hl
theorem Ok.ireturn (C : Ok l Z a0 EL it n0 own h0 ws0 Q code maxL ret nm rm K) {t : FieldType} {z : Int32} (hr : ret = some t) (ht : t = .int ∨ t = .boolean ∨ t = .byte ∨ t = .char ∨ t = .short) (hn : narrow t (.int z) = .int z) (hd : decode code pc = .ok (.ireturn, 1)) (hc : cells ≤ rm.cells) (hl : slots ≤ rm.slots) (hq : Q (some (.int z)) h) : WP l Z EL it n0 own h0 ws0 Q K h ws cells slots (mkF K.m pc Ls (.int z :: st)) :=
  C.leave (v := some (.int z)) (fun q => by rw [hr] at q; cases q) hq hc hl fun T vm locs fs X hl => retOut X C.exec (C.rets.trans hr) hn (Or.inl ⟨rfl, ht, z, rfl⟩) (hb C.bytes hd) hl
theorem Ok.areturn (C : Ok l Z a0 EL it n0 own h0 ws0 Q code maxL ret nm rm K) {t : FieldType} {v : Value} (hr : ret = some t) (ht : t.isReference = true) (hv : v.isRef = true) (hd : decode code pc = .ok (.areturn, 1)) (hc : cells ≤ rm.cells) (hl : slots ≤ rm.slots) (hq : Q (some v) h) : WP l Z EL it n0 own h0 ws0 Q K h ws cells slots (mkF K.m pc Ls (v :: st)) :=
  C.leave (v := some v) (fun q => by rw [hr] at q; cases q) hq hc hl fun T vm locs fs X hl => retOut X C.exec (C.rets.trans hr) (by rcases ref_cases hv with rfl | ⟨a, rfl⟩ <;> cases t <;> first | rfl | cases ht) (Or.inr (Or.inr (Or.inr (Or.inr ⟨rfl, ht, hv⟩)))) (hb C.bytes hd) hl
theorem Ok.lreturn (C : Ok l Z a0 EL it n0 own h0 ws0 Q code maxL ret nm rm K) {z : Int64} (hr : ret = some .long) (hd : decode code pc = .ok (.lreturn, 1)) (hc : cells ≤ rm.cells) (hl : slots ≤ rm.slots) (hq : Q (some (.long z)) h) : WP l Z EL it n0 own h0 ws0 Q K h ws cells slots (mkF K.m pc Ls (.long z :: st)) :=
  C.leave (v := some (.long z)) (fun q => by rw [hr] at q; cases q) hq hc hl fun T vm locs fs X hl => retOut X C.exec (C.rets.trans hr) rfl (Or.inr (Or.inl ⟨rfl, rfl, z, rfl⟩)) (hb C.bytes hd) hl
end Rules
end Own
end Jvm.Pilot.@@N@@
namespace Jvm.Pilot.@@N@@
namespace Own
open Jvm Jvm.ClassFile Sem Op Lib Jvm.Free Jvm.Stand Jvm.LawKit Jvm.RoadKit Bundle
section Calls
variable {l : Launch} {Z : State} {a0 : Array Value} {EL : List (String × Nat)} {it : Prop} {n0 : Nat} {own : String} {h0 : Heap} {ws0 : List Addr} {Q : Option Value → Heap → Prop} {code : ByteArray} {maxL : Nat} {ret : Option FieldType} {nm : String} {rm : Room} {K : Ctx} {h : Heap} {ws : List Addr} {cells slots pc : Nat} {Ls : Array Slot} {st stk : List Value} {g g' : JFrame}
theorem Ok.topI (C : Ok l Z a0 EL it n0 own h0 ws0 Q code maxL ret nm rm K) {x y : Int32} (e : x = y) (r : WP l Z EL it n0 own h0 ws0 Q K h ws cells slots (mkF K.m pc Ls (.int y :: st))) : WP l Z EL it n0 own h0 ws0 Q K h ws cells slots (mkF K.m pc Ls (.int x :: st)) := by subst e; exact r
theorem Ok.topJ (C : Ok l Z a0 EL it n0 own h0 ws0 Q code maxL ret nm rm K) {x y : Int64} (e : x = y) (r : WP l Z EL it n0 own h0 ws0 Q K h ws cells slots (mkF K.m pc Ls (.long y :: st))) : WP l Z EL it n0 own h0 ws0 Q K h ws cells slots (mkF K.m pc Ls (.long x :: st)) := by subst e; exact r
theorem Ok.more (C : Ok l Z a0 EL it n0 own h0 ws0 Q code maxL ret nm rm K) {cells' slots' : Nat} (h1 : cells ≤ cells') (h2 : slots ≤ slots') (r : WP l Z EL it n0 own h0 ws0 Q K h ws cells' slots' g) : WP l Z EL it n0 own h0 ws0 Q K h ws cells slots g :=
  fun vm T locs P => r vm T locs ⟨P.1.more h1 h2, P.2⟩
theorem Ok.sub (C : Ok l Z a0 EL it n0 own h0 ws0 Q code maxL ret nm rm K) {ws' : List Addr} (hs : ∀ x ∈ ws', x ∈ ws) (r : WP l Z EL it n0 own h0 ws0 Q K h ws' cells slots g) : WP l Z EL it n0 own h0 ws0 Q K h ws cells slots g :=
  fun vm T locs P => r vm T locs ⟨P.1, P.2.1, P.2.2.1, P.2.2.2.1, P.2.2.2.2.1, P.2.2.2.2.2.1, P.2.2.2.2.2.2.1, P.2.2.2.2.2.2.2.1, P.2.2.2.2.2.2.2.2.1, fun x hx => P.2.2.2.2.2.2.2.2.2 x (hs x hx)⟩
theorem Pos.call {it' : Prop} (hi : it' → it) {vm : Vm} {T U : State} {locs L : List Loc} {ws' : List Addr} {cells' slots' : Nat} (P : Pos l Z EL it n0 own h0 ws0 K h ws cells slots vm T locs) (hsub : ∀ x ∈ ws', x ∈ ws) (X' : Stand K.p l K.e K.R ((K.s.setVm vm).setVm U.vm) K.m K.args K.below K.meth K.c U (locs ++ L) cells' slots')
    (hS' : (K.s.setVm vm).Since U.vm U.heap.size) (hkp : Keep h U.heap ws') (hN : Fr n0 L) (hC : CHx it' Z EL vm h U.vm U.heap) : Pos l Z EL it n0 own h0 ws0 K U.heap ws cells' slots' U.vm U (locs ++ L) := by
  obtain ⟨X, eT, ⟨k, hS, hk⟩, hZ, hown, H, N, Kp, O, Ow⟩ := P
  obtain ⟨y1, y2, y3, y4⟩ := rebS hS hk X' hS' hkp.1 hZ hown
  exact ⟨y1, rfl, ⟨_, y2, Nat.le_refl _⟩, y3, y4, H.trans (hC.mono hi), N.app hN, Kp.trans hkp (fun x hx => (Ow x (hsub x hx)).2.2.2), O.keep hkp (fun x hx => (Ow x (hsub x hx)).1),
    fun x hx => ⟨(Ow x hx).1, Nat.lt_of_lt_of_le (Ow x hx).2.1 hkp.1, hC.safe (Ow x hx).2.1 (Ow x hx).2.2.1, (Ow x hx).2.2.2⟩⟩
theorem Ok.callS (C : Ok l Z a0 EL it n0 own h0 ws0 Q code maxL ret nm rm K) {it' : Prop} {y : MethodName} {index : Nat} {bytes' : ByteArray} {maxL' : Nat} {ret' : Option FieldType} {fr lo cl sl : Nat} {ws' : List Addr} {Q' : Option Value → Heap → Prop} {ps : List FieldType} {rt : Option FieldType} (as : List Value) (st : List Value) (W : Nat)
    (w1 : (Jvm.Cond.methodLink own index y).before a0 Z = true) (w2 : (Jvm.Cond.static y).before a0 Z = true) (w3 : (Jvm.Cond.initialized y.cls).before a0 Z = true) (w4 : (Jvm.Cond.code y bytes' maxL' ret').before a0 Z = true) (hy : y.cls ≠ "java/lang/invoke/MethodHandle" ∧ y.cls ≠ "java/lang/invoke/VarHandle")
    (pd : parseMethodDescriptor y.desc = some ⟨ps, rt⟩) (hlen : as.length = ps.length) (hi : it' → it) (M : Con l Z a0 EL it' n0 y fr lo cl sl as.toArray h ws' Q') (hd : decode code pc = .ok (.invokestatic index, 3)) (hLs : Ls.size = maxL) (hst : stk = as.reverse ++ st) (hW : (st.map fun v => v.category).sum = W)
    (hfr : fr ≤ rm.frames) (hlo : W + lo ≤ rm.locals) (hc : cells + cl ≤ rm.cells) (hs : slots + sl ≤ rm.slots) (hsub : ∀ x ∈ ws', x ∈ ws)
    (r : ∀ (v : Option Value) (h' : Heap), h.size ≤ h'.size → Keep h h' ws' → Q' v h' → WP l Z EL it n0 own h0 ws0 Q K h' ws (cells + cl) (slots + sl) (mkF K.m (pc + 3) Ls (v.toList ++ st))) : WP l Z EL it n0 own h0 ws0 Q K h ws cells slots (mkF K.m pc Ls stk) := by
  intro vm T locs P
  have P0 := P
  obtain ⟨X, eT, ⟨k, hS, hk⟩, hZ, hown, H, N, Kp, O, Ow⟩ := P
  have B := M K.R K.p K.e K.below K.s K.args 3 W vm hZ C.ew H.1 O (fun x hx => ⟨(Ow x (hsub x hx)).1, (Ow x (hsub x hx)).2.1, (Ow x (hsub x hx)).2.2.1⟩) (by rw [C.room]; exact hfr) (by rw [C.room]; exact hlo)
  obtain ⟨v, vm₁, ⟨U, locs', cells', slots'⟩, -, X', hS', hgr, ⟨L, ⟨hq, hkp, hN⟩, e1, e2, e3, hC⟩, hgo⟩ := callSS X C.exec hown (mv hZ w1) (mv hZ w2) (mv hZ w3) (mv hZ w4) hy B (g := mkF K.m pc Ls stk) rfl (hLs.trans C.maxl.symm) (rest := st) (lenOf pd hlen) hst (by rw [hW]; exact Nat.le_of_eq (Nat.zero_add _)) (hb C.bytes hd) (fun vm₁ _ => ⟨rfl, eT, by rw [C.room]; exact hc, by rw [C.room]; exact hs⟩)
  dsimp only [Pt.U, Pt.locs, Pt.cells, Pt.slots] at X' hS' hgr hq hkp e1 e2 e3 hC hgo
  subst e1 e2 e3
  exact Goes.of (fun t k => hgo.trans k) (r v U.heap hkp.1 hkp hq U.vm U _ (P0.call hi hsub X' hS' hkp hN hC))
/-- a call of a static method that interns nothing; what it has made may be written from here on -/
theorem Ok.callSo (C : Ok l Z a0 EL it n0 own h0 ws0 Q code maxL ret nm rm K) {y : MethodName} {index : Nat} {bytes' : ByteArray} {maxL' : Nat} {ret' : Option FieldType} {fr lo cl sl : Nat} {ws' : List Addr} {Q' : Option Value → Heap → Prop} {ps : List FieldType} {rt : Option FieldType} (as : List Value) (st : List Value) (W : Nat)
    (w1 : (Jvm.Cond.methodLink own index y).before a0 Z = true) (w2 : (Jvm.Cond.static y).before a0 Z = true) (w3 : (Jvm.Cond.initialized y.cls).before a0 Z = true) (w4 : (Jvm.Cond.code y bytes' maxL' ret').before a0 Z = true) (hy : y.cls ≠ "java/lang/invoke/MethodHandle" ∧ y.cls ≠ "java/lang/invoke/VarHandle")
    (pd : parseMethodDescriptor y.desc = some ⟨ps, rt⟩) (hlen : as.length = ps.length) (M : Con l Z a0 EL False n0 y fr lo cl sl as.toArray h ws' Q') (hd : decode code pc = .ok (.invokestatic index, 3)) (hLs : Ls.size = maxL) (hst : stk = as.reverse ++ st) (hW : (st.map fun v => v.category).sum = W)
    (hfr : fr ≤ rm.frames) (hlo : W + lo ≤ rm.locals) (hc : cells + cl ≤ rm.cells) (hs : slots + sl ≤ rm.slots) (hsub : ∀ x ∈ ws', x ∈ ws)
    (r : ∀ (v : Option Value) (h' : Heap), h.size ≤ h'.size → Keep h h' ws' → Q' v h' → ∃ os : List Addr, (∀ x ∈ os, h.size ≤ x ∧ x < h'.size) ∧ WP l Z EL it n0 own h0 ws0 Q K h' (os ++ ws) (cells + cl) (slots + sl) (mkF K.m (pc + 3) Ls (v.toList ++ st))) : WP l Z EL it n0 own h0 ws0 Q K h ws cells slots (mkF K.m pc Ls stk) := by
  intro vm T locs P
  have P0 := P
  obtain ⟨X, eT, ⟨k, hS, hk⟩, hZ, hown, H, N, Kp, O, Ow⟩ := P
  have B := M K.R K.p K.e K.below K.s K.args 3 W vm hZ C.ew H.1 O (fun x hx => ⟨(Ow x (hsub x hx)).1, (Ow x (hsub x hx)).2.1, (Ow x (hsub x hx)).2.2.1⟩) (by rw [C.room]; exact hfr) (by rw [C.room]; exact hlo)
  obtain ⟨v, vm₁, ⟨U, locs', cells', slots'⟩, -, X', hS', hgr, ⟨L, ⟨hq, hkp, hN⟩, e1, e2, e3, hC⟩, hgo⟩ := callSS X C.exec hown (mv hZ w1) (mv hZ w2) (mv hZ w3) (mv hZ w4) hy B (g := mkF K.m pc Ls stk) rfl (hLs.trans C.maxl.symm) (rest := st) (lenOf pd hlen) hst (by rw [hW]; exact Nat.le_of_eq (Nat.zero_add _)) (hb C.bytes hd) (fun vm₁ _ => ⟨rfl, eT, by rw [C.room]; exact hc, by rw [C.room]; exact hs⟩)
  dsimp only [Pt.U, Pt.locs, Pt.cells, Pt.slots] at X' hS' hgr hq hkp e1 e2 e3 hC hgo
  subst e1 e2 e3
  obtain ⟨os, hos, r⟩ := r v U.heap hkp.1 hkp hq
  have P1 := P0.call (it' := False) False.elim hsub X' hS' hkp hN hC
  refine Goes.of (fun t k => hgo.trans k) (r U.vm U _ ⟨P1.1, P1.2.1, P1.2.2.1, P1.2.2.2.1, P1.2.2.2.2.1, P1.2.2.2.2.2.1, P1.2.2.2.2.2.2.1, P1.2.2.2.2.2.2.2.1, P1.2.2.2.2.2.2.2.2.1, fun x hx => ?_⟩)
  rcases List.mem_append.mp hx with hx | hx
  · obtain ⟨g1, g2⟩ := hos x hx
    refine ⟨Nat.le_trans (O.1 ▸ O.2.1) g1, g2, fun q => ?_, Or.inr (Nat.le_trans Kp.1 g1)⟩
    rcases hC.2.2 x q with q | q
    · obtain ⟨c, hc⟩ := q.there
      exact absurd (Array.getElem?_eq_some_iff.mp hc).1 (Nat.not_lt.mpr g1)
    · exact q.1
  · exact P1.2.2.2.2.2.2.2.2.2 x hx
theorem Ok.callN (C : Ok l Z a0 EL it n0 own h0 ws0 Q code maxL ret nm rm K) {it' : Prop} {y : MethodName} {index : Nat} {bytes' : ByteArray} {maxL' : Nat} {fr lo cl sl : Nat} {ws' : List Addr} {Q' : Option Value → Heap → Prop} {ps : List FieldType} {rt : Option FieldType} (a : Nat) (as : List Value) (st : List Value) (W : Nat)
    (w1 : (Jvm.Cond.methodLink own index y).before a0 Z = true) (w2 : (Jvm.Cond.instanceMethod y).before a0 Z = true) (w4 : (Jvm.Cond.code y bytes' maxL' none).before a0 Z = true) (hy1 : y.name = "<init>") (hy : y.cls ≠ "java/lang/invoke/MethodHandle" ∧ y.cls ≠ "java/lang/invoke/VarHandle")
    (pd : parseMethodDescriptor y.desc = some ⟨ps, rt⟩) (hlen : as.length = ps.length) (hi : it' → it) (M : Con l Z a0 EL it' n0 y fr lo cl sl (Value.ref a :: as).toArray h ws' Q') (hd : decode code pc = .ok (.invokespecial index, 3)) (hLs : Ls.size = maxL) (hst : stk = as.reverse ++ .ref a :: st) (hW : (st.map fun v => v.category).sum = W)
    (hfr : fr ≤ rm.frames) (hlo : W + lo ≤ rm.locals) (hc : cells + cl ≤ rm.cells) (hs : slots + sl ≤ rm.slots) (hsub : ∀ x ∈ ws', x ∈ ws)
    (r : ∀ (v : Option Value) (h' : Heap), h.size ≤ h'.size → Keep h h' ws' → Q' v h' → WP l Z EL it n0 own h0 ws0 Q K h' ws (cells + cl) (slots + sl) (mkF K.m (pc + 3) Ls (v.toList ++ st))) : WP l Z EL it n0 own h0 ws0 Q K h ws cells slots (mkF K.m pc Ls stk) := by
  intro vm T locs P
  have P0 := P
  obtain ⟨X, eT, ⟨k, hS, hk⟩, hZ, hown, H, N, Kp, O, Ow⟩ := P
  have B := M K.R K.p K.e K.below K.s K.args 3 W vm hZ C.ew H.1 O (fun x hx => ⟨(Ow x (hsub x hx)).1, (Ow x (hsub x hx)).2.1, (Ow x (hsub x hx)).2.2.1⟩) (by rw [C.room]; exact hfr) (by rw [C.room]; exact hlo)
  obtain ⟨v, vm₁, ⟨U, locs', cells', slots'⟩, -, X', hS', hgr, ⟨L, ⟨hq, hkp, hN⟩, e1, e2, e3, hC⟩, hgo⟩ := X.specialBackS C.exec hy1 hown (mv hZ w1) (mv hZ w2) (mv hZ w4) hy B (g := mkF K.m pc Ls stk) rfl (hLs.trans C.maxl.symm) (Steps.refl _) (a := a) (rest := st) (lenOf pd hlen) hst (by rw [hW]; exact Nat.le_of_eq (Nat.zero_add _)) (hb C.bytes hd) (fun vm₁ _ => ⟨rfl, eT, by rw [C.room]; exact hc, by rw [C.room]; exact hs⟩)
  dsimp only [Pt.U, Pt.locs, Pt.cells, Pt.slots] at X' hS' hgr hq hkp e1 e2 e3 hC hgo
  subst e1 e2 e3
  exact Goes.of (fun t k => hgo.trans k) (r v U.heap hkp.1 hkp hq U.vm U _ (P0.call hi hsub X' hS' hkp hN hC))
theorem Ok.callV (C : Ok l Z a0 EL it n0 own h0 ws0 Q code maxL ret nm rm K) {it' : Prop} {y : MethodName} {J : String} {index : Nat} {fr lo cl sl : Nat} {ws' : List Addr} {Q' : Option Value → Heap → Prop} {ps : List FieldType} {rt : Option FieldType} (b : Nat) (as : List Value) (st : List Value) (W : Nat)
    (w1 : (Jvm.Cond.methodLink own index y).before a0 Z = true) (w2 : (Jvm.Cond.declares y).before a0 Z = true) (w3 : (Jvm.Cond.selects J y y).before a0 Z = true) (w4 : (Jvm.Cond.instanceMethod y).before a0 Z = true) (hy : y.cls ≠ "java/lang/invoke/MethodHandle" ∧ y.cls ≠ "java/lang/invoke/VarHandle") (hyJ : y.cls = J)
    (E : Exa Z h b J) (pd : parseMethodDescriptor y.desc = some ⟨ps, rt⟩) (hlen : as.length = ps.length) (hi : it' → it) (M : Con l Z a0 EL it' n0 y fr lo cl sl (Value.ref b :: as).toArray h ws' Q') (hd : decode code pc = .ok (.invokevirtual index, 3)) (hLs : Ls.size = maxL) (hst : stk = as.reverse ++ .ref b :: st) (hW : (st.map fun v => v.category).sum = W)
    (hfr : fr ≤ rm.frames) (hlo : W + lo ≤ rm.locals) (hc : cells + cl ≤ rm.cells) (hs : slots + sl ≤ rm.slots) (hsub : ∀ x ∈ ws', x ∈ ws)
    (r : ∀ (v : Option Value) (h' : Heap), h.size ≤ h'.size → Keep h h' ws' → Q' v h' → WP l Z EL it n0 own h0 ws0 Q K h' ws (cells + cl) (slots + sl) (mkF K.m (pc + 3) Ls (v.toList ++ st))) : WP l Z EL it n0 own h0 ws0 Q K h ws cells slots (mkF K.m pc Ls stk) := by
  intro vm T locs P
  have P0 := P
  obtain ⟨X, eT, ⟨k, hS, hk⟩, hZ, hown, H, N, Kp, O, Ow⟩ := P
  have B := M K.R K.p K.e K.below K.s K.args 3 W vm hZ C.ew H.1 O (fun x hx => ⟨(Ow x (hsub x hx)).1, (Ow x (hsub x hx)).2.1, (Ow x (hsub x hx)).2.2.1⟩) (by rw [C.room]; exact hfr) (by rw [C.room]; exact hlo)
  obtain ⟨cB, kB, q1, -, q3⟩ := isOf (s := K.s.setVm vm) hZ eT E
  subst hyJ
  obtain ⟨v, vm₁, ⟨U, locs', cells', slots'⟩, -, X', hS', hgr, ⟨L, ⟨hq, hkp, hN⟩, e1, e2, e3, hC⟩, hgo⟩ := X.virtualBackS C.exec (y := y) (z := y) hown (mv hZ w1) (mv hZ w2) (notFace_of_selects (args := #[]) (mv hZ w3)) (mv hZ w3) (mv hZ w4) hy B q1 q3 (g := mkF K.m pc Ls stk) rfl (hLs.trans C.maxl.symm) (Steps.refl _) (argsL := as) (rest := st) (lenOf pd hlen) hst (by rw [hW]; exact Nat.le_of_eq (Nat.zero_add _)) (hb C.bytes hd) (fun vm₁ _ => ⟨rfl, eT, by rw [C.room]; exact hc, by rw [C.room]; exact hs⟩)
  dsimp only [Pt.U, Pt.locs, Pt.cells, Pt.slots] at X' hS' hgr hq hkp e1 e2 e3 hC hgo
  subst e1 e2 e3
  exact Goes.of (fun t k => hgo.trans k) (r v U.heap hkp.1 hkp hq U.vm U _ (P0.call hi hsub X' hS' hkp hN hC))
theorem Ok.callI (C : Ok l Z a0 EL it n0 own h0 ws0 Q code maxL ret nm rm K) {it' : Prop} {x y : MethodName} {J : String} {index count : Nat} {fr lo cl sl : Nat} {ws' : List Addr} {Q' : Option Value → Heap → Prop} {ps : List FieldType} {rt : Option FieldType} (b : Nat) (as : List Value) (st : List Value) (W : Nat)
    (w1 : (Jvm.Cond.methodLink own index x).before a0 Z = true) (w2 : (Jvm.Cond.declares x).before a0 Z = true) (hk' : ((Jvm.Cond.interfaceMethod x.cls x.cls x.name x.desc).onTables && (Jvm.Cond.interfaceMethod x.cls x.cls x.name x.desc).keepsFace) = true) (w2' : (Jvm.Cond.interfaceMethod x.cls x.cls x.name x.desc).before a0 Z = true) (w3 : (Jvm.Cond.selects J x y).before a0 Z = true) (w4 : (Jvm.Cond.instanceMethod y).before a0 Z = true) (w5 : (Jvm.Cond.publicMethod y).before a0 Z = true) (w6 : (Jvm.Cond.unhidden J x.name x.desc).before a0 Z = true) (w7 : (Jvm.Cond.castable J x.cls).before a0 Z = true) (hy : x.cls ≠ "java/lang/invoke/MethodHandle" ∧ x.cls ≠ "java/lang/invoke/VarHandle")
    (E : Exa Z h b J) (pd : parseMethodDescriptor x.desc = some ⟨ps, rt⟩) (hlen : as.length = ps.length) (hi : it' → it) (M : Con l Z a0 EL it' n0 y fr lo cl sl (Value.ref b :: as).toArray h ws' Q') (hd : decode code pc = .ok (.invokeinterface index count, 5)) (hLs : Ls.size = maxL) (hst : stk = as.reverse ++ .ref b :: st) (hW : (st.map fun v => v.category).sum = W)
    (hfr : fr ≤ rm.frames) (hlo : W + lo ≤ rm.locals) (hc : cells + cl ≤ rm.cells) (hs : slots + sl ≤ rm.slots) (hsub : ∀ x ∈ ws', x ∈ ws)
    (r : ∀ (v : Option Value) (h' : Heap), h.size ≤ h'.size → Keep h h' ws' → Q' v h' → WP l Z EL it n0 own h0 ws0 Q K h' ws (cells + cl) (slots + sl) (mkF K.m (pc + 5) Ls (v.toList ++ st))) : WP l Z EL it n0 own h0 ws0 Q K h ws cells slots (mkF K.m pc Ls stk) := by
  intro vm T locs P
  have P0 := P
  obtain ⟨X, eT, ⟨k, hS, hk⟩, hZ, hown, H, N, Kp, O, Ow⟩ := P
  have B := M K.R K.p K.e K.below K.s K.args 5 W vm hZ C.ew H.1 O (fun x hx => ⟨(Ow x (hsub x hx)).1, (Ow x (hsub x hx)).2.1, (Ow x (hsub x hx)).2.2.1⟩) (by rw [C.room]; exact hfr) (by rw [C.room]; exact hlo)
  obtain ⟨cB, kB, q1, q2, q3⟩ := isOf (s := K.s.setVm vm) hZ eT E
  obtain ⟨v, vm₁, ⟨U, locs', cells', slots'⟩, -, X', hS', hgr, ⟨L, ⟨hq, hkp, hN⟩, e1, e2, e3, hC⟩, hgo⟩ := X.interfaceBackS C.exec (xi := x) (y := y) hown (mv hZ w1) (mv hZ w2) (mv hZ w2' hk') (mv hZ w3) (mv hZ w4) (mv hZ w5) (mv hZ w6) (mv hZ w7) hy B q1 q2 q3 (g := mkF K.m pc Ls stk) rfl (hLs.trans C.maxl.symm) (Steps.refl _) (argsL := as) (rest := st) (lenOf pd hlen) hst (by rw [hW]; exact Nat.le_of_eq (Nat.zero_add _)) (hb C.bytes hd) (fun vm₁ _ => ⟨rfl, eT, by rw [C.room]; exact hc, by rw [C.room]; exact hs⟩)
  dsimp only [Pt.U, Pt.locs, Pt.cells, Pt.slots] at X' hS' hgr hq hkp e1 e2 e3 hC hgo
  subst e1 e2 e3
  exact Goes.of (fun t k => hgo.trans k) (r v U.heap hkp.1 hkp hq U.vm U _ (P0.call hi hsub X' hS' hkp hN hC))
theorem Ok.initO (C : Ok l Z a0 EL it n0 own h0 ws0 Q code maxL ret nm rm K) {index : Nat} {a : Nat} (W : Nat) (w1 : (Jvm.Cond.methodLink own index Lib.objectInit).before a0 Z = true) (w2 : (Jvm.Cond.instanceMethod Lib.objectInit).before a0 Z = true) (w3 : (Jvm.Cond.code Lib.objectInit ⟨#[0xb1]⟩ 1 none).before a0 Z = true) (hd : decode code pc = .ok (.invokespecial index, 3)) (hLs : Ls.size = maxL)
    (hW : (st.map fun v => v.category).sum = W) (hfr : 1 ≤ rm.frames) (hlo : W + 12 ≤ rm.locals) (r : WP l Z EL it n0 own h0 ws0 Q K h ws cells slots (mkF K.m (pc + 3) Ls st)) : WP l Z EL it n0 own h0 ws0 Q K h ws cells slots (mkF K.m pc Ls (.ref a :: st)) := by
  intro vm T locs P
  obtain ⟨T', X', e', s'⟩ := RoadKit.initO P.1 C.exec P.2.2.2.1 P.2.2.2.2.1 w1 w2 w3 P.2.1 (g := mkF K.m pc Ls (.ref a :: st)) rfl (hLs.trans C.maxl.symm) rfl (hb C.bytes hd) (by rw [C.room]; exact hfr) (W := W) (by rw [← hW]; exact Nat.le_of_eq (Nat.zero_add _)) (by rw [C.room]; exact hlo)
  exact Goes.of s' (r vm T' locs ⟨X', e', P.2.2⟩)
/-- ldc of a String constant whose text is read -/
theorem Ok.ldcC (C : Ok l Z a0 EL it n0 own h0 ws0 Q code maxL ret nm rm K) (hit : it) {text : String} {index : Nat} {vs : List Value} {z : Int32} (n : Nat) (w : (Jvm.Cond.stringLink own index text).before a0 Z = true) (wS : ∀ a ∈ Bundle.stringAtoms, a.before a0 Z = true) (hmem : (own, index) ∈ EL)
    (ht : (∀ c ∈ text.toList, c.toNat < 256) ∧ text.toList.map (fun c => Value.int (Jvm.Lit.byteI c.toNat.toUInt16)) = vs) (hz : ¬ z < 0) (hl : z.toNatClampNeg = vs.length) (hn : 4 * text.toList.length ≤ n) (hbig : n ≤ 536870912) (hd : decode code pc = .ok (.ldc index, 2)) (hc : cells + 2 ≤ rm.cells) (hl' : slots + (n + 4) ≤ rm.slots)
    (r : ∀ (h' : Heap) (a b : Nat), h.size ≤ h'.size → Keep h h' [] → a < h'.size → b < h'.size → (∀ x ∈ ws, @Ne Nat x a ∧ @Ne Nat x b) → Exa Z h' a "java/lang/String" → Fld Z h' a "java/lang/String" "coder" "B" (.int 0) → Fld Z h' a "java/lang/String" "value" "[B" (.ref b) → Ary Z h' b .byte vs → WP l Z EL it n0 own h0 ws0 Q K h' ws (cells + 2) (slots + (n + 4)) (mkF K.m (pc + 2) Ls (.ref a :: st))) :
    WP l Z EL it n0 own h0 ws0 Q K h ws cells slots (mkF K.m pc Ls st) := by
  intro vm T locs P
  obtain ⟨X, eT, ⟨k, hS, hk⟩, hZ, hown, H, N, Kp, O, Ow⟩ := P
  obtain ⟨a, T', h', k1, b, kc, X', e', E, hS', hk', hZ', hown', F1, F2, F3, F4, la, lb, hC, -, hne, go⟩ := ldcCH X C.exec hZ hown w wS eT hS hk C.ew hmem H.1 ht hz hl (g := mkF K.m pc Ls st) rfl (hb C.bytes hd) hn hbig (by rw [C.room]; exact hc) (by rw [C.room]; exact hl')
  have Sf : ∀ x ∈ ws, Safe Z EL T'.vm h' x := fun x hx => hC.safe (Ow x hx).2.1 (Ow x hx).2.2.1
  exact Goes.of go (r h' a b E.1 (keep_ext E) la lb (fun x hx => hne x (Sf x hx)) F1 F2 F3 (Ary.of_arv F4 hl) T'.vm T' locs ⟨X', e', ⟨k1, hS', hk'⟩, hZ', hown', H.trans (CHx.of hit hC), N, Kp.ext E, O.ext E, fun x hx => ⟨(Ow x hx).1, Nat.lt_of_lt_of_le (Ow x hx).2.1 E.1, Sf x hx, (Ow x hx).2.2.2⟩⟩)
/-- ldc of a String constant, unread -/
theorem Ok.ldcO (C : Ok l Z a0 EL it n0 own h0 ws0 Q code maxL ret nm rm K) (hit : it) {text : String} {index : Nat} (n : Nat) (w : (Jvm.Cond.stringLink own index text).before a0 Z = true) (wS : ∀ a ∈ Bundle.stringAtoms, a.before a0 Z = true) (hn : 4 * text.toList.length ≤ n) (hbig : n ≤ 536870912) (hd : decode code pc = .ok (.ldc index, 2)) (hc : cells + 2 ≤ rm.cells) (hl' : slots + (n + 4) ≤ rm.slots)
    (r : ∀ (h' : Heap) (a : Nat), h.size ≤ h'.size → Keep h h' [] → WP l Z EL it n0 own h0 ws0 Q K h' ws (cells + 2) (slots + (n + 4)) (mkF K.m (pc + 2) Ls (.ref a :: st))) : WP l Z EL it n0 own h0 ws0 Q K h ws cells slots (mkF K.m pc Ls st) := by
  intro vm T locs P
  obtain ⟨X, eT, ⟨k, hS, hk⟩, hZ, hown, H, N, Kp, O, Ow⟩ := P
  obtain ⟨a, T', h', k1, X', e', E, hS', hk', hZ', hown', hC, -, go⟩ := ldcOH X C.exec hZ hown w wS eT hS hk C.ew H.1 (g := mkF K.m pc Ls st) rfl (hb C.bytes hd) hn hbig (by rw [C.room]; exact hc) (by rw [C.room]; exact hl')
  exact Goes.of go (r h' a E.1 (keep_ext E) T'.vm T' locs ⟨X', e', ⟨k1, hS', hk'⟩, hZ', hown', H.trans (CHx.of hit hC), N, Kp.ext E, O.ext E, fun x hx => ⟨(Ow x hx).1, Nat.lt_of_lt_of_le (Ow x hx).2.1 E.1, hC.safe (Ow x hx).2.1 (Ow x hx).2.2.1, (Ow x hx).2.2.2⟩⟩)
end Calls
section Laws
variable {l : Launch} {Z : State} {a0 : Array Value} {EL : List (String × Nat)} {it : Prop} {n0 : Nat} {Q : Option Value → Heap → Prop} {h : Heap} {ws : List Addr}
/-- from the body to the law -/
theorem Met.of {y : MethodName} {bytes : ByteArray} {maxL : Nat} {ret : Option FieldType} {rm : Room} {cs : List Jvm.Cond} {as : Array Value} {own nm : String} (Ls : Array Slot) (hEL : EW Z a0 EL) (ho : y.cls = own) (hn : y.name = nm) (pn : plainFor y = true) (ef : ∀ m, entryFrame m as maxL = mkF m 0 Ls [])
    (body : ∀ K : Ctx, Ok l Z a0 EL it n0 own h ws Q bytes maxL ret nm rm K → WP l Z EL it n0 own h ws Q K h ws 0 0 (mkF K.m 0 Ls [])) : Met l Z EL it n0 y bytes maxL ret rm cs as h ws Q := by
  subst ho hn
  refine MetFree.of_bodySF pn hisR ?_
  intro p e s m args below meth c s₁ Bd hml hP hK
  obtain ⟨rfl, hZ, hh, H, O, hs⟩ := hP
  subst hh
  have X : Stand p l e rm s m args below meth c s₁ [] 0 0 := Stand.of_body Bd
  have hown : s.vm.findClass y.cls = some m.cls := findClass_of_methodNamed Bd.named
  have eh : s₁.heap = s.heap := by rw [Bd.state]; rfl
  obtain ⟨s₂, o, h1, h2, h3, h4⟩ := body (p, e, rm, s, m, args, below, meth, c) ⟨Bd.exec, hEL, Bd.bytes, hml, Bd.returns, (name_of_methodNamed Bd.named Bd.method).1, Bd.notSynchronized, rfl⟩ s.vm s₁ []
    ⟨X, eh, ⟨s.heap.size, (State.WarmedH.refl s).since _, Nat.le_refl _⟩, hZ, hown, CHx.refl H, Fr.nil _, Keep.refl _ _, O, fun x hx => ⟨(hs x hx).1, (hs x hx).2.1, (hs x hx).2.2, Or.inl hx⟩⟩
  exact ⟨s₂, o, castTop (ef m) h1, h2, h3, h4⟩
/-- from the body's law to a caller's -/
theorem Met.con {y : MethodName} {bytes : ByteArray} {maxL : Nat} {ret : Option FieldType} {rm : Room} {as : Array Value} (M : Met l Z EL it n0 y bytes maxL ret rm [] as h ws Q) (wc : (Jvm.Cond.code y bytes maxL ret).before a0 Z = true) (wz : (Jvm.Cond.initialized y.cls).before a0 Z = true) {fr lo cl sl : Nat} (e1 : rm.frames + 1 = fr) (e2 : maxL + 11 + rm.locals = lo) (e3 : rm.cells = cl) (e4 : rm.slots = sl) :
    Con l Z a0 EL it n0 y fr lo cl sl as h ws Q := by
  subst e1 e2 e3 e4
  intro R p e below s args len W vm0 hZ hEL H O hs hf hl
  exact BackS.of_freeW (bytes := bytes) (maxL := maxL) (ret := ret) (E := fun _ first o t L k n => k = rm.cells ∧ n = rm.slots ∧ (∃ v, o = .returned v ∧ Q v t.heap ∧ Keep h t.heap ws ∧ Fr n0 L) ∧ CHx it Z EL first.vm h t.vm t.heap) M hf (by show W + (maxL + 11) + rm.locals ≤ _; omega)
    (fun m meth c A a Y hp => by
      have hU : Z.Warmed39 A.U.vm := wtrans (s := s.setVm vm0) hZ Y.warmed
      exact ⟨by show (Jvm.Cond.and _ .tt).before a A.U = true; rw [Cond.before_and, mv hU wc]; rfl, mv hU wc, mv hU wz, hp.2.2.1, hp.2.2.2⟩)
    (fun m meth c A a g mk Y hp => by
      have q : CHx it Z EL vm0 h A.U.vm h := CHx.still (CHv.at Y hZ hEL H)
      exact ⟨hp.1, wtrans (s := s.setVm vm0) hZ Y.warmed, hp.2.1, q.1, O, fun x hx => ⟨(hs x hx).1, (hs x hx).2.1, q.safe (hs x hx).2.1 (hs x hx).2.2⟩⟩)
    (fun _ _ _ _ _ _ _ _ _ => trivial)
    (fun _ _ _ _ ⟨v, L, h1, h2, h3, h4⟩ => ⟨L, _, _, h4, rfl, rfl, ⟨v, h1, h2⟩, h3⟩)
    (fun m meth c A a g mk v t L k n Y hp _ _ ⟨e1, e2, ⟨v', e3, e4⟩, e5⟩ => by
      cases e3; subst e1 e2
      exact ⟨L, e4, rfl, rfl, rfl, (CHx.still (CHv.at Y hZ hEL H)).trans e5⟩)
theorem Con.wk {y : MethodName} {fr lo cl sl : Nat} {as : Array Value} {Q' : Option Value → Heap → Prop} (M : Con l Z a0 EL it n0 y fr lo cl sl as h ws Q) (hq : ∀ v h', Keep h h' ws → Q v h' → Q' v h') : Con l Z a0 EL it n0 y fr lo cl sl as h ws Q' := by
  intro R p e below s args len W vm0 hZ hEL H O hs hf hl m meth c A g ig mk a X hg hsize hdg hW hn hp
  obtain ⟨v, B, X', hS, hgr, ⟨L, ⟨q1, q2⟩, q3⟩, hst⟩ := M R p e below s args len W vm0 hZ hEL H O hs hf hl m meth c A g ig mk a X hg hsize hdg hW hn hp
  exact ⟨v, B, X', hS, hgr, ⟨L, ⟨hq _ _ q2.1 q1, q2⟩, q3⟩, hst⟩
end Laws
end Own
end Jvm.Pilot.@@N@@
namespace Jvm.Pilot.@@N@@
namespace Own
open Jvm Jvm.ClassFile Sem Op Lib Jvm.Free Jvm.Stand Jvm.LawKit Jvm.RoadKit Bundle
/-! Strings -/
theorem neA {a b : Nat} (q : @LT.lt Nat _ a b ∨ @LT.lt Nat _ b a) : a ≠ b := fun e => by subst e; exact q.elim (Nat.lt_irrefl _) (Nat.lt_irrefl _)
abbrev ST : String := "java/lang/String"
def lo8 (x : Int32) : Int32 := x.toInt8.toInt32
def hi8 (x : Int32) : Int32 := lo8 (x >>> ((8 : Int32) &&& 31))
def wide : List Int32 → List Value
  | [] => []
  | c :: cs => .int (lo8 c) :: .int (hi8 c) :: wide cs
def Codes (cs : List Int32) (cd : Int32) (vs : List Value) : Prop :=
  (cd = 0 ∧ vs = cs.map (fun c => Value.int (lo8 c)) ∧ ∀ c ∈ cs, 0 ≤ c.toInt ∧ c.toInt < 256) ∨ (cd = 1 ∧ vs = wide cs ∧ (∀ c ∈ cs, 0 ≤ c.toInt ∧ c.toInt < 65536) ∧ ∃ c ∈ cs, 255 < c.toInt)
/-- at x stands a String that spells cs; it and its bytes lie below N -/
def Str (Z : State) (h : Heap) (N : Nat) (x : Nat) (cs : List Int32) : Prop :=
  Exa Z h x ST ∧ x < N ∧ N ≤ h.size ∧ ∃ (t : Nat) (cd : Int32) (vs : List Value), t < N ∧ Fld Z h x ST "value" "[B" (.ref t) ∧ Fld Z h x ST "coder" "B" (.int cd) ∧ Ary Z h t .byte vs ∧ Codes cs cd vs
theorem exaLt {Z : State} {h : Heap} {x : Nat} {C : String} (E : Exa Z h x C) : x < h.size := E.lt
theorem fldLt {Z : State} {h : Heap} {x : Nat} {C n d : String} {v : Value} (E : Fld Z h x C n d v) : x < h.size := E.lt
theorem Str.keep {Z : State} {h h' : Heap} {N : Nat} {x : Nat} {cs : List Int32} {us : List Addr} (S : Str Z h N x cs) (Kp : Keep h h' us) (q : ∀ w ∈ us, N ≤ w) : Str Z h' N x cs := by
  obtain ⟨E, hx, hN, t, cd, vs, ht, F1, F2, A, c⟩ := S
  have nx : ∀ z, z < N → z ∉ us := fun z hz hm => by have := q z hm; omega
  exact ⟨E.keep Kp, hx, Nat.le_trans hN Kp.1, t, cd, vs, ht, F1.keep Kp (nx x hx), F2.keep Kp (nx x hx), A.keep Kp (nx t ht), c⟩
theorem Str.keepO {Z : State} {a0 : Array Value} {h h' : Heap} {N : Nat} {x a k : Nat} {C : String} {cs : List Int32} (S : Str Z h N x cs) (E : Exa Z h a C) (wi : (Jvm.Cond.instantiable C k).before a0 Z = true) (hx : x ≠ a) (Kp : Keep h h' [a]) : Str Z h' N x cs := by
  obtain ⟨Ex, hxN, hN, t, cd, vs, ht, F1, F2, A, c⟩ := S
  have nx : x ∉ [a] := fun q => hx (List.mem_singleton.mp q)
  have nt : t ∉ [a] := fun q => by
    obtain ⟨cc, A1, -⟩ := A
    exact RoadKit.ne_arr E wi A1 (List.mem_singleton.mp q).symm
  exact ⟨Ex.keep Kp, hxN, Nat.le_trans hN Kp.1, t, cd, vs, ht, F1.keep Kp nx, F2.keep Kp nx, A.keep Kp nt, c⟩
theorem Str.exa {Z : State} {h : Heap} {N : Nat} {x : Nat} {cs : List Int32} (S : Str Z h N x cs) : Exa Z h x ST := S.1
theorem Str.lt {Z : State} {h : Heap} {N : Nat} {x : Nat} {cs : List Int32} (S : Str Z h N x cs) : x < N ∧ N ≤ h.size := ⟨S.2.1, S.2.2.1⟩
theorem ord_of {s : State} {args : Array Value} {t : Term} {x : Nat} {C n d : String} {k : Int32} (ev : t.eval args s none [] s = some (.ref x)) (h : (Jvm.Cond.eq (.field t C n d) (.int k)).value args s none s [] = some true) : s.fieldOf? x C n d = some (.int k) := by
  have q := eqv_i (Term.int_eval k) h
  rwa [fld_at ev] at q
/-! numbers -/
theorem and_chr (x : Int32) : 0 ≤ ((x &&& 255).toUInt32.toUInt16.toUInt32.toInt32).toInt ∧ ((x &&& 255).toUInt32.toUInt16.toUInt32.toInt32).toInt < 256 := by
  have q := c_and x 255 (by decide)
  have e : (255 : Int32).toInt = 255 := by decide
  rw [i2c_id (by omega) (by omega)]
  omega
theorem and_pos (x : Int32) : 0 ≤ (x &&& 2147483647).toInt := (c_and x 2147483647 (by decide)).1
theorem rem_pos {x y : Int32} (k : Int) (hx : 0 ≤ x.toInt) (hy : y.toInt = k) (hk : 0 < k) : 0 ≤ (x % y).toInt ∧ (x % y).toInt < k ∧ (x % y).toInt = x.toInt % k := by
  have q := (c_irem x y k hy).1 hx
  have := Int.emod_nonneg x.toInt (show k ≠ 0 by omega)
  have := Int.emod_lt_of_pos x.toInt hk
  omega
theorem Ary.int {Z : State} {h : Heap} {a : Nat} {vs : List Value} {k : Nat} (A : Ary Z h a .byte vs) (hk : k < vs.length) : ∃ x : Int32, vs[k]? = some (.int x) := by
  obtain ⟨c, -, -, -, f⟩ := A
  have q := f vs[k] (List.getElem_mem hk)
  obtain ⟨x, hx⟩ := fit_I q (by simp)
  exact ⟨x, by rw [List.getElem?_eq_getElem hk, hx]⟩
theorem take_eq_succ {α : Type} {vs us : List α} {k : Nat} {x : α} (q : vs.take k = us.take k) (h1 : vs[k]? = some x) (h2 : us[k]? = some x) : vs.take (k + 1) = us.take (k + 1) := by
  rw [List.take_add_one, List.take_add_one, q, h1, h2]
theorem lo8_inj {x y : Int32} (hx : 0 ≤ x.toInt ∧ x.toInt < 256) (hy : 0 ≤ y.toInt ∧ y.toInt < 256) (e : lo8 x = lo8 y) : x = y := by
  have q1 := c_i2b x
  have q2 := c_i2b y
  have e' : x.toInt8.toInt32.toInt = y.toInt8.toInt32.toInt := by rw [show x.toInt8.toInt32 = y.toInt8.toInt32 from e]
  apply Int32.toInt_inj.mp
  omega
theorem map_lo8_inj : ∀ {cs ds : List Int32}, (∀ c ∈ cs, 0 ≤ c.toInt ∧ c.toInt < 256) → (∀ c ∈ ds, 0 ≤ c.toInt ∧ c.toInt < 256) → cs.map (fun c => Value.int (lo8 c)) = ds.map (fun c => Value.int (lo8 c)) → cs = ds
  | [], [], _, _, _ => rfl
  | [], _ :: _, _, _, h => by simp at h
  | _ :: _, [], _, _, h => by simp at h
  | c :: cs, d :: ds, hc, hd, h => by
    simp only [List.map_cons, List.cons.injEq, Value.int.injEq] at h
    rw [lo8_inj (hc c (by simp)) (hd d (by simp)) h.1, map_lo8_inj (fun z hz => hc z (by simp [hz])) (fun z hz => hd z (by simp [hz])) h.2]
/-- all its chars below 256 -/
def Lat (cs : List Int32) : Prop := ∀ c ∈ cs, c.toInt < 256
theorem Codes.lat {cs : List Int32} {cd : Int32} {vs : List Value} (c : Codes cs cd vs) (hl : Lat cs) : cd = 0 ∧ vs = cs.map (fun c => Value.int (lo8 c)) ∧ ∀ c ∈ cs, 0 ≤ c.toInt ∧ c.toInt < 256 := by
  rcases c with c | ⟨-, -, -, c, hc, q⟩
  · exact c
  · have := hl c hc; omega
theorem wide_len (cs : List Int32) : (wide cs).length = 2 * cs.length := by
  induction cs with
  | nil => rfl
  | cons c cs ih => simp [wide, ih]; omega
theorem Codes.cd {cs : List Int32} {cd : Int32} {vs : List Value} (c : Codes cs cd vs) : cd = 0 ∨ cd = 1 := c.imp (·.1) (·.1)
theorem Codes.len {cs : List Int32} {cd : Int32} {vs : List Value} (c : Codes cs cd vs) (hl : vs.length < 2147483648) : (Int32.ofNat vs.length) >>> (cd &&& 31) = Int32.ofNat cs.length := by
  apply Int32.toInt_inj.mp
  have e : (Int32.ofNat vs.length).toInt = vs.length := Int32.toInt_ofNat_small hl
  rcases c with ⟨rfl, rfl, -⟩ | ⟨rfl, rfl, -⟩
  · rw [c_ishr _ 0 0 (by decide), e]
    simp only [List.length_map] at hl ⊢
    rw [Int32.toInt_ofNat_small hl]; simp
  · rw [c_ishr _ 1 1 (by decide), e]
    rw [wide_len] at hl ⊢
    rw [Int32.toInt_ofNat_small (by omega)]; simp
theorem Codes.nil {cs : List Int32} {cd : Int32} {vs : List Value} (c : Codes cs cd vs) : cs = [] ↔ vs.length = 0 := by
  rcases c with ⟨-, rfl, -⟩ | ⟨-, rfl, -⟩
  · simp
  · rw [wide_len, ← List.length_eq_zero_iff]; omega
theorem lcmp_self (x : Int64) : (lcmpW x x).toInt = 0 := (c_lcmp x x).2.1 rfl
theorem shl1 {x : Int32} (h0 : 0 ≤ x.toInt) (h1 : 2 * x.toInt < 2147483648) : (x <<< ((1 : Int32) &&& 31)).toInt = 2 * x.toInt := by
  have q := c_ishl x 1 1 (by decide)
  have r := rng32 (x <<< ((1 : Int32) &&& 31))
  omega
theorem shr0 (x : Int32) : x >>> ((0 : Int32) &&& 31) = x := by
  apply Int32.toInt_inj.mp
  rw [c_ishr x 0 0 (by decide)]; simp
theorem lo8_and (x : Int32) : (lo8 x &&& 255).toInt = x.toInt % 256 := by
  have q := c_i2b x
  have e := c_mask (lo8 x) 255 8 (by decide) (by decide)
  have e2 : (lo8 x).toInt = x.toInt8.toInt32.toInt := rfl
  omega
theorem pair_chr {c : Int32} (h0 : 0 ≤ c.toInt) (h1 : c.toInt < 65536) : (((lo8 c &&& 255) <<< ((0 : Int32) &&& 31)) ||| ((hi8 c &&& 255) <<< ((8 : Int32) &&& 31))).toUInt32.toUInt16.toUInt32.toInt32 = c := by
  have e1 := lo8_and c
  have e2 := lo8_and (c >>> ((8 : Int32) &&& 31))
  have e3 := c_ishr c 8 8 (by decide)
  have e4 := c_ishl (lo8 c &&& 255) 0 0 (by decide)
  have e5 := c_ishl (hi8 c &&& 255) 8 8 (by decide)
  have r4 := rng32 ((lo8 c &&& 255) <<< ((0 : Int32) &&& 31))
  have r5 := rng32 ((hi8 c &&& 255) <<< ((8 : Int32) &&& 31))
  have e6 : (hi8 c &&& 255).toInt = (lo8 (c >>> ((8 : Int32) &&& 31)) &&& 255).toInt := rfl
  have eq : (((lo8 c &&& 255) <<< ((0 : Int32) &&& 31)) ||| ((hi8 c &&& 255) <<< ((8 : Int32) &&& 31))) = c := by
    rw [Int32.or_comm]
    apply Int32.toInt_inj.mp
    have q := c_or ((hi8 c &&& 255) <<< ((8 : Int32) &&& 31)) ((lo8 c &&& 255) <<< ((0 : Int32) &&& 31)) 8 (by decide) 256 (by decide) (by omega) (by omega) (by omega)
    have r := rng32 (((hi8 c &&& 255) <<< ((8 : Int32) &&& 31)) ||| ((lo8 c &&& 255) <<< ((0 : Int32) &&& 31)))
    omega
  rw [eq, i2c_id h0 h1]
theorem wide_get : ∀ {cs : List Int32} {k : Nat} {c : Int32}, cs[k]? = some c → (wide cs)[2 * k]? = some (.int (lo8 c)) ∧ (wide cs)[2 * k + 1]? = some (.int (hi8 c))
  | [], k, c, h => by simp at h
  | d :: cs, 0, c, h => by
    simp at h; subst h; exact ⟨rfl, rfl⟩
  | d :: cs, k + 1, c, h => by
    have q := wide_get (cs := cs) (k := k) (c := c) (by simpa using h)
    have e : 2 * (k + 1) = 2 * k + 1 + 1 := by omega
    rw [e]
    simpa [wide] using q
theorem wide_app (cs ds : List Int32) : wide (cs ++ ds) = wide cs ++ wide ds := by
  induction cs with
  | nil => rfl
  | cons c cs ih => simp [wide, ih]
theorem wide_step {cs : List Int32} {k j : Nat} {c : Int32} (hc : cs[k]? = some c) : ((wide (cs.take k) ++ List.replicate (2 * (j + 1)) (Value.int 0)).set (2 * k) (.int (lo8 c))).set (2 * k + 1) (.int (hi8 c)) = wide (cs.take (k + 1)) ++ List.replicate (2 * j) (.int 0) := by
  have hk : k < cs.length := (List.getElem?_eq_some_iff.mp hc).1
  have e : cs.take (k + 1) = cs.take k ++ [c] := by rw [List.take_add_one, hc]; rfl
  have hl : (wide (cs.take k)).length = 2 * k := by rw [wide_len, List.length_take, Nat.min_eq_left (Nat.le_of_lt hk)]
  rw [e, wide_app, show 2 * (j + 1) = (2 * j + 1) + 1 by omega]
  rw [List.set_append_right _ _ (by omega), hl, List.set_append_right _ _ (by omega), hl]
  simp [List.replicate_succ, wide, show 2 * k + 1 - 2 * k = 1 by omega]
theorem take_all {cs : List Int32} {k : Nat} {c : Int32} {b : Int} (h : ∀ z ∈ cs.take k, z.toInt < b) (hc : cs[k]? = some c) (hb : c.toInt < b) : ∀ z ∈ cs.take (k + 1), z.toInt < b := by
  intro z hz
  rw [List.take_add_one, hc] at hz
  rcases List.mem_append.mp hz with hz | hz
  · exact h z hz
  · cases List.mem_singleton.mp (show z ∈ [c] from hz); exact hb
theorem cfal_eq {cs : List Int32} {cd n : Int32} {vs : List Value} (c : Codes cs cd vs) (hn : n.toInt = cs.length) (h0 : 0 < n.toInt) (hl : vs.length < 2147483648) : (((n - Int32.ofNat vs.length).toUInt32 >>> ((31 : Int32) &&& 31).toUInt32).toInt32).toInt8.toInt32 = cd := by
  have em : (Int32.ofNat vs.length).toInt = vs.length := Int32.toInt_ofNat_small hl
  have e1 := c_isub n (Int32.ofNat vs.length)
  have e2 := c_iushr (n - Int32.ofNat vs.length) 31 31 (by decide) (by decide)
  have r1 := rng32 (n - Int32.ofNat vs.length)
  have e3 := c_i2b ((n - Int32.ofNat vs.length).toUInt32 >>> ((31 : Int32) &&& 31).toUInt32).toInt32
  apply Int32.toInt_inj.mp
  rcases c with ⟨rfl, rfl, -⟩ | ⟨rfl, rfl, -⟩
  · rw [List.length_map] at *
    have k0 : (0 : Int32).toInt = 0 := rfl
    omega
  · rw [wide_len] at *
    have k1 : (1 : Int32).toInt = 1 := rfl
    omega
theorem Codes.wid {cs : List Int32} {cd : Int32} {vs : List Value} (c : Codes cs cd vs) (h : cd = 1) : vs = wide cs ∧ ∀ c ∈ cs, 0 ≤ c.toInt ∧ c.toInt < 65536 := by
  rcases c with c | c
  · rw [c.1] at h; exact absurd h (by decide)
  · exact ⟨c.2.1, c.2.2.1⟩
theorem Codes.lo {cs : List Int32} {cd : Int32} {vs : List Value} (c : Codes cs cd vs) (h : cd = 0) : vs = cs.map (fun c => Value.int (lo8 c)) ∧ ∀ c ∈ cs, 0 ≤ c.toInt ∧ c.toInt < 256 := by
  rcases c with c | c
  · exact ⟨c.2.1, c.2.2⟩
  · rw [c.1] at h; exact absurd h (by decide)
theorem Codes.bnd {cs : List Int32} {cd : Int32} {vs : List Value} (c : Codes cs cd vs) : ∀ c ∈ cs, 0 ≤ c.toInt ∧ c.toInt < 65536 := by
  rcases c with c | c
  · intro z hz
    have := c.2.2 z hz
    omega
  · exact c.2.2.1
theorem sub_int {x y : Int32} (h1 : -2147483648 ≤ x.toInt - y.toInt) (h2 : x.toInt - y.toInt < 2147483648) : (x - y).toInt = x.toInt - y.toInt := by
  have q := c_isub x y
  have r := rng32 (x - y)
  omega
theorem add_int {x y : Int32} (h1 : -2147483648 ≤ x.toInt + y.toInt) (h2 : x.toInt + y.toInt < 2147483648) : (x + y).toInt = x.toInt + y.toInt := by
  have q := c_iadd x y
  have r := rng32 (x + y)
  omega
theorem nchar {x : Int32} (h0 : 0 ≤ x.toInt) (h1 : x.toInt < 65536) : narrow .char (.int x) = .int x := by
  show Value.int (nar .char x) = _
  rw [nar_char h0 h1]
theorem ofNat_int {k : Nat} (h : k < 2147483648) : (Int32.ofNat k).toInt = k := Int32.toInt_ofNat_small h
theorem ofNat_succ (k : Nat) : Int32.ofNat k + (1 : Int32) = Int32.ofNat (k + 1) := by
  rw [show (1 : Int32) = Int32.ofNat 1 from rfl, ← Int32.ofNat_add]
theorem lo8_lo8 (x : Int32) : x.toInt8.toInt32.toInt8.toInt32 = lo8 x := by
  show (x.toInt8.toInt32.toInt8).toInt32 = x.toInt8.toInt32
  rw [Int8.toInt8_toInt32]
theorem fill_step {α β : Type} (f : α → β) (z : β) {cs : List α} {k j : Nat} {c : α} (hc : cs[k]? = some c) : ((cs.take k).map f ++ List.replicate (j + 1) z).set k (f c) = (cs.take (k + 1)).map f ++ List.replicate j z := by
  have hk : k < cs.length := (List.getElem?_eq_some_iff.mp hc).1
  have e : cs.take (k + 1) = cs.take k ++ [c] := by rw [List.take_add_one, hc]; rfl
  rw [e, List.map_append, List.set_append_right _ _ (by simp; omega)]
  simp [List.replicate_succ, Nat.min_eq_left (Nat.le_of_lt hk)]
/-! surrogates -/
abbrev Hi (c : Int32) : Prop := 55296 ≤ c.toInt ∧ c.toInt ≤ 56319
abbrev Lo (c : Int32) : Prop := 56320 ≤ c.toInt ∧ c.toInt ≤ 57343
/-- how many neighbours are a surrogate pair -/
def prs : List Int32 → Nat
  | [] => 0
  | [_] => 0
  | a :: b :: r => (if Hi a ∧ Lo b then 1 else 0) + prs (b :: r)
theorem prs_le : ∀ cs : List Int32, prs cs ≤ cs.length
  | [] => Nat.le_refl _
  | [_] => Nat.zero_le _
  | a :: b :: r => by
    have := prs_le (b :: r)
    simp only [prs, List.length_cons] at *
    split <;> omega
theorem prs_skip {b : Int32} (r : List Int32) (hb : ¬ Hi b) : prs (b :: r) = prs r := by
  cases r with
  | nil => rfl
  | cons c r => simp only [prs]; rw [if_neg (fun q => hb q.1)]; omega
theorem prs_drop_last {cs : List Int32} {k : Nat} (h : cs.length ≤ k + 1) : prs (cs.drop k) = 0 := by
  have hl : (cs.drop k).length ≤ 1 := by simp; omega
  match hd : cs.drop k, hl with
  | [], _ => rfl
  | [_], _ => rfl
theorem drop_two {cs : List Int32} {k : Nat} {c d : Int32} (hc : cs[k]? = some c) (hd : cs[k + 1]? = some d) : cs.drop k = c :: d :: cs.drop (k + 2) := by
  obtain ⟨h1, rfl⟩ := List.getElem?_eq_some_iff.mp hc
  obtain ⟨h2, rfl⟩ := List.getElem?_eq_some_iff.mp hd
  rw [List.drop_eq_getElem_cons h1, List.drop_eq_getElem_cons h2]
theorem prs_no {cs : List Int32} {k : Nat} {c d : Int32} (hc : cs[k]? = some c) (hd : cs[k + 1]? = some d) (hn : ¬ (Hi c ∧ Lo d)) : prs (cs.drop k) = prs (cs.drop (k + 1)) := by
  have e2 : cs.drop (k + 1) = d :: cs.drop (k + 2) := by
    obtain ⟨h2, rfl⟩ := List.getElem?_eq_some_iff.mp hd
    rw [List.drop_eq_getElem_cons h2]
  rw [drop_two hc hd, e2]
  simp only [prs]
  rw [if_neg hn]; omega
theorem prs_yes {cs : List Int32} {k : Nat} {c d : Int32} (hc : cs[k]? = some c) (hd : cs[k + 1]? = some d) (hn : Hi c ∧ Lo d) : prs (cs.drop k) = 1 + prs (cs.drop (k + 2)) := by
  rw [drop_two hc hd]
  simp only [prs]
  rw [if_pos hn, prs_skip _ (fun q => by have := hn.2; omega)]
theorem prs_lat {cs : List Int32} (h : ∀ c ∈ cs, c.toInt < 256) : prs cs = 0 := by
  induction cs with
  | nil => rfl
  | cons a r ih => rw [prs_skip r (fun q => by have := h a (by simp); omega)]; exact ih fun c hc => h c (by simp [hc])
end Own
end Jvm.Pilot.@@N@@
namespace Jvm.Pilot.@@N@@
open Jvm Jvm.ClassFile Sem Op Lib Jvm.Free Jvm.Stand Jvm.LawKit Jvm.RoadKit Bundle Jvm.Pilot.@@N@@.Jvm.D Jvm.Pilot.@@N@@.Own
abbrev EL : List (String × Nat) := []
def Base (Z : State) (a0 : Array Value)  : Prop := (∀ d ∈ tables_1, d.before a0 Z = true) ∧ (∃ zc : Int32, Sta Z Z.heap "java/lang/String" "COMPACT_STRINGS" "Z" (.int zc) ∧ ¬ zc = 0) ∧ (∃ fm : Value, Sta Z Z.heap "jdk/internal/util/Preconditions" "SIOOBE_FORMATTER" "Ljava/util/function/BiFunction;" fm ∧ fm.isRef = true)
variable {l : Launch} {Z : State} {a0 : Array Value} {it : Prop} {n0 : Nat}
theorem ew  (B : Base Z a0) : EW Z a0 EL := EW.nil
theorem sA_mem : ∀ d ∈ Bundle.stringAtoms, d ∈ tables_1 := by decide +kernel
theorem sA  (B : Base Z a0) : ∀ d ∈ Bundle.stringAtoms, d.before a0 Z = true := fun d hd => B.1 d (sA_mem d hd)
theorem d0_0 : decode jdk_52_method_15_code 0 = .ok (.iload_n 1, 1) := by decide +kernel
theorem d0_1 : decode jdk_52_method_15_code 1 = .ok (.aload_n 0, 1) := by decide +kernel
theorem d0_2 : decode jdk_52_method_15_code 2 = .ok (.arraylength, 1) := by decide +kernel
theorem d0_3 : decode jdk_52_method_15_code 3 = .ok (.isub, 1) := by decide +kernel
theorem d0_4 : decode jdk_52_method_15_code 4 = .ok (.bipush 31, 2) := by decide +kernel
theorem d0_6 : decode jdk_52_method_15_code 6 = .ok (.iushr, 1) := by decide +kernel
theorem d0_7 : decode jdk_52_method_15_code 7 = .ok (.i2b, 1) := by decide +kernel
theorem d0_8 : decode jdk_52_method_15_code 8 = .ok (.ireturn, 1) := by decide +kernel
theorem pn_java_lang_StringUTF16 : plainName "java/lang/StringUTF16" = true := by first | (simp [plainName, overriddenIn]; done) | decide +kernel
theorem d1_0 : decode jdk_52_method_21_code 0 = .ok (.iconst 0, 1) := by decide +kernel
theorem d1_1 : decode jdk_52_method_21_code 1 = .ok (.istore 5, 2) := by decide +kernel
theorem d1_3 : decode jdk_52_method_21_code 3 = .ok (.iload 5, 2) := by decide +kernel
theorem d1_5 : decode jdk_52_method_21_code 5 = .ok (.iload 4, 2) := by decide +kernel
theorem d1_7 : decode jdk_52_method_21_code 7 = .ok (.if_icmp .ge 37, 3) := by decide +kernel
theorem d1_44 : decode jdk_52_method_21_code 44 = .ok (.iload 4, 2) := by decide +kernel
theorem d1_46 : decode jdk_52_method_21_code 46 = .ok (.ireturn, 1) := by decide +kernel
theorem d1_10 : decode jdk_52_method_21_code 10 = .ok (.aload_n 0, 1) := by decide +kernel
theorem d1_11 : decode jdk_52_method_21_code 11 = .ok (.iload_n 1, 1) := by decide +kernel
theorem d1_12 : decode jdk_52_method_21_code 12 = .ok (.caload, 1) := by decide +kernel
theorem d1_13 : decode jdk_52_method_21_code 13 = .ok (.istore 6, 2) := by decide +kernel
theorem d1_15 : decode jdk_52_method_21_code 15 = .ok (.iload 6, 2) := by decide +kernel
theorem d1_17 : decode jdk_52_method_21_code 17 = .ok (.sipush 255, 3) := by decide +kernel
theorem d1_20 : decode jdk_52_method_21_code 20 = .ok (.if_icmp .le 6, 3) := by decide +kernel
theorem d1_26 : decode jdk_52_method_21_code 26 = .ok (.aload_n 2, 1) := by decide +kernel
theorem d1_27 : decode jdk_52_method_21_code 27 = .ok (.iload_n 3, 1) := by decide +kernel
theorem d1_28 : decode jdk_52_method_21_code 28 = .ok (.iload 6, 2) := by decide +kernel
theorem d1_30 : decode jdk_52_method_21_code 30 = .ok (.i2b, 1) := by decide +kernel
theorem d1_31 : decode jdk_52_method_21_code 31 = .ok (.bastore, 1) := by decide +kernel
theorem d1_32 : decode jdk_52_method_21_code 32 = .ok (.iinc 1 1, 3) := by decide +kernel
theorem d1_35 : decode jdk_52_method_21_code 35 = .ok (.iinc 3 1, 3) := by decide +kernel
theorem d1_38 : decode jdk_52_method_21_code 38 = .ok (.iinc 5 1, 3) := by decide +kernel
theorem d1_41 : decode jdk_52_method_21_code 41 = .ok (.goto (-38), 3) := by decide +kernel
theorem d2_0 : decode jdk_52_method_16_code 0 = .ok (.iload_n 2, 1) := by decide +kernel
theorem d2_1 : decode jdk_52_method_16_code 1 = .ok (.newarray .byte, 2) := by decide +kernel
theorem d2_3 : decode jdk_52_method_16_code 3 = .ok (.astore_n 3, 1) := by decide +kernel
theorem d2_4 : decode jdk_52_method_16_code 4 = .ok (.aload_n 0, 1) := by decide +kernel
theorem d2_5 : decode jdk_52_method_16_code 5 = .ok (.iload_n 1, 1) := by decide +kernel
theorem d2_6 : decode jdk_52_method_16_code 6 = .ok (.aload_n 3, 1) := by decide +kernel
theorem d2_7 : decode jdk_52_method_16_code 7 = .ok (.iconst 0, 1) := by decide +kernel
theorem d2_8 : decode jdk_52_method_16_code 8 = .ok (.iload_n 2, 1) := by decide +kernel
theorem d2_9 : decode jdk_52_method_16_code 9 = .ok (.invokestatic 115, 3) := by decide +kernel
theorem pd__28__5b_CI_5b_BII_29_I : parseMethodDescriptor "([CI[BII)I" = some ⟨[(.array .char), .int, (.array .byte), .int, .int], some .int⟩ := by decide +kernel
theorem d2_12 : decode jdk_52_method_16_code 12 = .ok (.istore 4, 2) := by decide +kernel
theorem d2_14 : decode jdk_52_method_16_code 14 = .ok (.iload 4, 2) := by decide +kernel
theorem d2_16 : decode jdk_52_method_16_code 16 = .ok (.iload_n 2, 1) := by decide +kernel
theorem d2_17 : decode jdk_52_method_16_code 17 = .ok (.if_icmp .eq 40, 3) := by decide +kernel
theorem d2_57 : decode jdk_52_method_16_code 57 = .ok (.aload_n 3, 1) := by decide +kernel
theorem d2_58 : decode jdk_52_method_16_code 58 = .ok (.areturn, 1) := by decide +kernel
theorem d3_0 : decode jdk_42_method_149_code 0 = .ok (.aload_n 0, 1) := by decide +kernel
theorem d3_1 : decode jdk_42_method_149_code 1 = .ok (.invokespecial 1, 3) := by decide +kernel
theorem d3_4 : decode jdk_42_method_149_code 4 = .ok (.iload_n 3, 1) := by decide +kernel
theorem d3_5 : decode jdk_42_method_149_code 5 = .ok (.ifCond .ne 22, 3) := by decide +kernel
theorem d3_27 : decode jdk_42_method_149_code 27 = .ok (.getstatic 38, 3) := by decide +kernel
theorem d3_30 : decode jdk_42_method_149_code 30 = .ok (.ifCond .eq 28, 3) := by decide +kernel
theorem d3_33 : decode jdk_42_method_149_code 33 = .ok (.aload_n 1, 1) := by decide +kernel
theorem d3_34 : decode jdk_42_method_149_code 34 = .ok (.iload_n 2, 1) := by decide +kernel
theorem d3_35 : decode jdk_42_method_149_code 35 = .ok (.iload_n 3, 1) := by decide +kernel
theorem d3_36 : decode jdk_42_method_149_code 36 = .ok (.invokestatic 177, 3) := by decide +kernel
theorem pd__28__5b_CII_29__5b_B : parseMethodDescriptor "([CII)[B" = some ⟨[(.array .char), .int, .int], some (.array .byte)⟩ := by decide +kernel
theorem d3_39 : decode jdk_42_method_149_code 39 = .ok (.astore 5, 2) := by decide +kernel
theorem d3_41 : decode jdk_42_method_149_code 41 = .ok (.aload_n 0, 1) := by decide +kernel
theorem d3_42 : decode jdk_42_method_149_code 42 = .ok (.aload 5, 2) := by decide +kernel
theorem d3_44 : decode jdk_42_method_149_code 44 = .ok (.iload_n 3, 1) := by decide +kernel
theorem d3_45 : decode jdk_42_method_149_code 45 = .ok (.invokestatic 47, 3) := by decide +kernel
theorem pd__28__5b_BI_29_B : parseMethodDescriptor "([BI)B" = some ⟨[(.array .byte), .int], some .byte⟩ := by decide +kernel
theorem d3_48 : decode jdk_42_method_149_code 48 = .ok (.putfield 15, 3) := by decide +kernel
theorem d3_51 : decode jdk_42_method_149_code 51 = .ok (.aload_n 0, 1) := by decide +kernel
theorem d3_52 : decode jdk_42_method_149_code 52 = .ok (.aload 5, 2) := by decide +kernel
theorem d3_54 : decode jdk_42_method_149_code 54 = .ok (.putfield 9, 3) := by decide +kernel
theorem d3_57 : decode jdk_42_method_149_code 57 = .ok (.return_, 1) := by decide +kernel
theorem pn_java_lang_String : plainName "java/lang/String" = true := by first | (simp [plainName, overriddenIn]; done) | decide +kernel
theorem d4_0 : decode jdk_42_method_3_code 0 = .ok (.aload_n 0, 1) := by decide +kernel
theorem d4_1 : decode jdk_42_method_3_code 1 = .ok (.aload_n 1, 1) := by decide +kernel
theorem d4_2 : decode jdk_42_method_3_code 2 = .ok (.iconst 0, 1) := by decide +kernel
theorem d4_3 : decode jdk_42_method_3_code 3 = .ok (.aload_n 1, 1) := by decide +kernel
theorem d4_4 : decode jdk_42_method_3_code 4 = .ok (.arraylength, 1) := by decide +kernel
theorem d4_5 : decode jdk_42_method_3_code 5 = .ok (.aconst_null, 1) := by decide +kernel
theorem d4_6 : decode jdk_42_method_3_code 6 = .ok (.invokespecial 27, 3) := by decide +kernel
theorem pd__28__5b_CIILjava_2f_lang_2f_Void_3b__29_V : parseMethodDescriptor "([CIILjava/lang/Void;)V" = some ⟨[(.array .char), .int, .int, (.object "java/lang/Void")], none⟩ := by decide +kernel
theorem d4_9 : decode jdk_42_method_3_code 9 = .ok (.return_, 1) := by decide +kernel
theorem d5_0 : decode jdk_42_method_152_code 0 = .ok (.getstatic 38, 3) := by decide +kernel
theorem d5_3 : decode jdk_42_method_152_code 3 = .ok (.ifCond .eq 10, 3) := by decide +kernel
theorem d5_6 : decode jdk_42_method_152_code 6 = .ok (.aload_n 0, 1) := by decide +kernel
theorem d5_7 : decode jdk_42_method_152_code 7 = .ok (.getfield 15, 3) := by decide +kernel
theorem d5_10 : decode jdk_42_method_152_code 10 = .ok (.goto 4, 3) := by decide +kernel
theorem d5_14 : decode jdk_42_method_152_code 14 = .ok (.ireturn, 1) := by decide +kernel
theorem d6_0 : decode jdk_42_method_54_code 0 = .ok (.aload_n 0, 1) := by decide +kernel
theorem d6_1 : decode jdk_42_method_54_code 1 = .ok (.getfield 9, 3) := by decide +kernel
theorem d6_4 : decode jdk_42_method_54_code 4 = .ok (.arraylength, 1) := by decide +kernel
theorem d6_5 : decode jdk_42_method_54_code 5 = .ok (.aload_n 0, 1) := by decide +kernel
theorem d6_6 : decode jdk_42_method_54_code 6 = .ok (.invokevirtual 335, 3) := by decide +kernel
theorem pd__28__29_B : parseMethodDescriptor "()B" = some ⟨[], some .byte⟩ := by decide +kernel
theorem d6_9 : decode jdk_42_method_54_code 9 = .ok (.ishr, 1) := by decide +kernel
theorem d6_10 : decode jdk_42_method_54_code 10 = .ok (.ireturn, 1) := by decide +kernel
theorem d7_0 : decode jdk_42_method_154_code 0 = .ok (.getstatic 38, 3) := by decide +kernel
theorem d7_3 : decode jdk_42_method_154_code 3 = .ok (.ifCond .eq 14, 3) := by decide +kernel
theorem d7_6 : decode jdk_42_method_154_code 6 = .ok (.aload_n 0, 1) := by decide +kernel
theorem d7_7 : decode jdk_42_method_154_code 7 = .ok (.getfield 15, 3) := by decide +kernel
theorem d7_10 : decode jdk_42_method_154_code 10 = .ok (.ifCond .ne 7, 3) := by decide +kernel
theorem d7_17 : decode jdk_42_method_154_code 17 = .ok (.iconst 0, 1) := by decide +kernel
theorem d7_18 : decode jdk_42_method_154_code 18 = .ok (.ireturn, 1) := by decide +kernel
theorem d7_13 : decode jdk_42_method_154_code 13 = .ok (.iconst 1, 1) := by decide +kernel
theorem d7_14 : decode jdk_42_method_154_code 14 = .ok (.goto 4, 3) := by decide +kernel
theorem d8_0 : decode jdk_42_method_55_code 0 = .ok (.aload_n 0, 1) := by decide +kernel
theorem d8_1 : decode jdk_42_method_55_code 1 = .ok (.getfield 9, 3) := by decide +kernel
theorem d8_4 : decode jdk_42_method_55_code 4 = .ok (.arraylength, 1) := by decide +kernel
theorem d8_5 : decode jdk_42_method_55_code 5 = .ok (.ifCond .ne 7, 3) := by decide +kernel
theorem d8_12 : decode jdk_42_method_55_code 12 = .ok (.iconst 0, 1) := by decide +kernel
theorem d8_13 : decode jdk_42_method_55_code 13 = .ok (.ireturn, 1) := by decide +kernel
theorem d8_8 : decode jdk_42_method_55_code 8 = .ok (.iconst 1, 1) := by decide +kernel
theorem d8_9 : decode jdk_42_method_55_code 9 = .ok (.goto 4, 3) := by decide +kernel
theorem d9_0 : decode jdk_41_method_11_code 0 = .ok (.iload_n 0, 1) := by decide +kernel
theorem d9_1 : decode jdk_41_method_11_code 1 = .ok (.ifCond .lt 8, 3) := by decide +kernel
theorem d9_4 : decode jdk_41_method_11_code 4 = .ok (.iload_n 0, 1) := by decide +kernel
theorem d9_5 : decode jdk_41_method_11_code 5 = .ok (.iload_n 1, 1) := by decide +kernel
theorem d9_6 : decode jdk_41_method_11_code 6 = .ok (.if_icmp .lt 10, 3) := by decide +kernel
theorem d9_16 : decode jdk_41_method_11_code 16 = .ok (.iload_n 0, 1) := by decide +kernel
theorem d9_17 : decode jdk_41_method_11_code 17 = .ok (.ireturn, 1) := by decide +kernel
theorem pn_jdk_internal_util_Preconditions : plainName "jdk/internal/util/Preconditions" = true := by first | (simp [plainName, overriddenIn]; done) | decide +kernel
theorem d10_0 : decode jdk_42_method_155_code 0 = .ok (.iload_n 0, 1) := by decide +kernel
theorem d10_1 : decode jdk_42_method_155_code 1 = .ok (.iload_n 1, 1) := by decide +kernel
theorem d10_2 : decode jdk_42_method_155_code 2 = .ok (.getstatic 1053, 3) := by decide +kernel
theorem pd__28_IILjava_2f_util_2f_function_2f_BiFunction_3b__29_I : parseMethodDescriptor "(IILjava/util/function/BiFunction;)I" = some ⟨[.int, .int, (.object "java/util/function/BiFunction")], some .int⟩ := by decide +kernel
theorem d10_5 : decode jdk_42_method_155_code 5 = .ok (.invokestatic 1059, 3) := by decide +kernel
theorem d10_8 : decode jdk_42_method_155_code 8 = .ok (.pop, 1) := by decide +kernel
theorem d10_9 : decode jdk_42_method_155_code 9 = .ok (.return_, 1) := by decide +kernel
theorem d11_0 : decode jdk_43_method_2_code 0 = .ok (.iload_n 1, 1) := by decide +kernel
theorem d11_1 : decode jdk_43_method_2_code 1 = .ok (.aload_n 0, 1) := by decide +kernel
theorem d11_2 : decode jdk_43_method_2_code 2 = .ok (.arraylength, 1) := by decide +kernel
theorem pd__28_II_29_V : parseMethodDescriptor "(II)V" = some ⟨[.int, .int], none⟩ := by decide +kernel
theorem d11_3 : decode jdk_43_method_2_code 3 = .ok (.invokestatic 9, 3) := by decide +kernel
theorem d11_6 : decode jdk_43_method_2_code 6 = .ok (.aload_n 0, 1) := by decide +kernel
theorem d11_7 : decode jdk_43_method_2_code 7 = .ok (.iload_n 1, 1) := by decide +kernel
theorem d11_8 : decode jdk_43_method_2_code 8 = .ok (.baload, 1) := by decide +kernel
theorem d11_9 : decode jdk_43_method_2_code 9 = .ok (.sipush 255, 3) := by decide +kernel
theorem d11_12 : decode jdk_43_method_2_code 12 = .ok (.iand, 1) := by decide +kernel
theorem d11_13 : decode jdk_43_method_2_code 13 = .ok (.i2c, 1) := by decide +kernel
theorem d11_14 : decode jdk_43_method_2_code 14 = .ok (.ireturn, 1) := by decide +kernel
theorem pn_java_lang_StringLatin1 : plainName "java/lang/StringLatin1" = true := by first | (simp [plainName, overriddenIn]; done) | decide +kernel
theorem d12_0 : decode jdk_42_method_56_code 0 = .ok (.aload_n 0, 1) := by decide +kernel
theorem d12_1 : decode jdk_42_method_56_code 1 = .ok (.invokevirtual 492, 3) := by decide +kernel
theorem pd__28__29_Z : parseMethodDescriptor "()Z" = some ⟨[], some .boolean⟩ := by decide +kernel
theorem d12_4 : decode jdk_42_method_56_code 4 = .ok (.ifCond .eq 12, 3) := by decide +kernel
theorem d12_7 : decode jdk_42_method_56_code 7 = .ok (.aload_n 0, 1) := by decide +kernel
theorem d12_8 : decode jdk_42_method_56_code 8 = .ok (.getfield 9, 3) := by decide +kernel
theorem d12_11 : decode jdk_42_method_56_code 11 = .ok (.iload_n 1, 1) := by decide +kernel
theorem d12_12 : decode jdk_42_method_56_code 12 = .ok (.invokestatic 495, 3) := by decide +kernel
theorem pd__28__5b_BI_29_C : parseMethodDescriptor "([BI)C" = some ⟨[(.array .byte), .int], some .char⟩ := by decide +kernel
theorem d12_15 : decode jdk_42_method_56_code 15 = .ok (.ireturn, 1) := by decide +kernel
theorem d13_0 : decode prog_19_method_3_code 0 = .ok (.aload_n 0, 1) := by decide +kernel
theorem d13_1 : decode prog_19_method_3_code 1 = .ok (.invokevirtual 16, 3) := by decide +kernel
theorem d13_4 : decode prog_19_method_3_code 4 = .ok (.ifCond .eq 11, 3) := by decide +kernel
theorem d13_15 : decode prog_19_method_3_code 15 = .ok (.lconst 0, 1) := by decide +kernel
theorem d13_16 : decode prog_19_method_3_code 16 = .ok (.lstore 4, 2) := by decide +kernel
theorem d13_18 : decode prog_19_method_3_code 18 = .ok (.iconst 0, 1) := by decide +kernel
theorem d13_19 : decode prog_19_method_3_code 19 = .ok (.istore 6, 2) := by decide +kernel
theorem d13_21 : decode prog_19_method_3_code 21 = .ok (.iload 6, 2) := by decide +kernel
theorem d13_23 : decode prog_19_method_3_code 23 = .ok (.aload_n 0, 1) := by decide +kernel
theorem d13_24 : decode prog_19_method_3_code 24 = .ok (.invokevirtual 26, 3) := by decide +kernel
theorem pd__28__29_I : parseMethodDescriptor "()I" = some ⟨[], some .int⟩ := by decide +kernel
theorem d13_27 : decode prog_19_method_3_code 27 = .ok (.if_icmp .ge 70, 3) := by decide +kernel
theorem d13_97 : decode prog_19_method_3_code 97 = .ok (.lload 4, 2) := by decide +kernel
theorem d13_99 : decode prog_19_method_3_code 99 = .ok (.iload_n 2, 1) := by decide +kernel
theorem d13_100 : decode prog_19_method_3_code 100 = .ok (.i2l, 1) := by decide +kernel
theorem d13_101 : decode prog_19_method_3_code 101 = .ok (.lcmp, 1) := by decide +kernel
theorem d13_102 : decode prog_19_method_3_code 102 = .ok (.ifCond .ge 11, 3) := by decide +kernel
theorem d13_113 : decode prog_19_method_3_code 113 = .ok (.lload 4, 2) := by decide +kernel
theorem d13_115 : decode prog_19_method_3_code 115 = .ok (.l2i, 1) := by decide +kernel
theorem d13_116 : decode prog_19_method_3_code 116 = .ok (.ireturn, 1) := by decide +kernel
theorem d13_30 : decode prog_19_method_3_code 30 = .ok (.aload_n 0, 1) := by decide +kernel
theorem d13_31 : decode prog_19_method_3_code 31 = .ok (.iload 6, 2) := by decide +kernel
theorem d13_33 : decode prog_19_method_3_code 33 = .ok (.invokevirtual 30, 3) := by decide +kernel
theorem pd__28_I_29_C : parseMethodDescriptor "(I)C" = some ⟨[.int], some .char⟩ := by decide +kernel
theorem d13_36 : decode prog_19_method_3_code 36 = .ok (.istore 7, 2) := by decide +kernel
theorem d13_38 : decode prog_19_method_3_code 38 = .ok (.iload 7, 2) := by decide +kernel
theorem d13_40 : decode prog_19_method_3_code 40 = .ok (.bipush 48, 2) := by decide +kernel
theorem d13_42 : decode prog_19_method_3_code 42 = .ok (.if_icmp .lt 10, 3) := by decide +kernel
theorem d13_45 : decode prog_19_method_3_code 45 = .ok (.iload 7, 2) := by decide +kernel
theorem d13_47 : decode prog_19_method_3_code 47 = .ok (.bipush 57, 2) := by decide +kernel
theorem d13_49 : decode prog_19_method_3_code 49 = .ok (.if_icmp .le 11, 3) := by decide +kernel
theorem d13_60 : decode prog_19_method_3_code 60 = .ok (.lload 4, 2) := by decide +kernel
theorem d13_62 : decode prog_19_method_3_code 62 = .ok (.ldc2_w 34, 3) := by decide +kernel
theorem d13_65 : decode prog_19_method_3_code 65 = .ok (.lmul, 1) := by decide +kernel
theorem d13_66 : decode prog_19_method_3_code 66 = .ok (.iload 7, 2) := by decide +kernel
theorem d13_68 : decode prog_19_method_3_code 68 = .ok (.bipush 48, 2) := by decide +kernel
theorem d13_70 : decode prog_19_method_3_code 70 = .ok (.isub, 1) := by decide +kernel
theorem d13_71 : decode prog_19_method_3_code 71 = .ok (.i2l, 1) := by decide +kernel
theorem d13_72 : decode prog_19_method_3_code 72 = .ok (.ladd, 1) := by decide +kernel
theorem d13_73 : decode prog_19_method_3_code 73 = .ok (.lstore 4, 2) := by decide +kernel
theorem d13_75 : decode prog_19_method_3_code 75 = .ok (.lload 4, 2) := by decide +kernel
theorem d13_77 : decode prog_19_method_3_code 77 = .ok (.iload_n 3, 1) := by decide +kernel
theorem d13_78 : decode prog_19_method_3_code 78 = .ok (.i2l, 1) := by decide +kernel
theorem d13_79 : decode prog_19_method_3_code 79 = .ok (.lcmp, 1) := by decide +kernel
theorem d13_80 : decode prog_19_method_3_code 80 = .ok (.ifCond .le 11, 3) := by decide +kernel
theorem d13_91 : decode prog_19_method_3_code 91 = .ok (.iinc 6 1, 3) := by decide +kernel
theorem d13_94 : decode prog_19_method_3_code 94 = .ok (.goto (-73), 3) := by decide +kernel
theorem pn_com_example_quire_quire_catalogue_WholeNumber : plainName "com/example/quire/quire/catalogue/WholeNumber" = true := by first | (simp [plainName, overriddenIn]; done) | decide +kernel
theorem d14_0 : decode jdk_30_method_1_code 0 = .ok (.aload_n 0, 1) := by decide +kernel
theorem d14_1 : decode jdk_30_method_1_code 1 = .ok (.invokespecial 1, 3) := by decide +kernel
theorem d14_4 : decode jdk_30_method_1_code 4 = .ok (.return_, 1) := by decide +kernel
theorem pn_java_lang_Record : plainName "java/lang/Record" = true := by first | (simp [plainName, overriddenIn]; done) | decide +kernel
theorem d15_0 : decode method_2_code 0 = .ok (.bipush 48, 2) := by decide +kernel
theorem d15_2 : decode method_2_code 2 = .ok (.iload_n 0, 1) := by decide +kernel
theorem d15_3 : decode method_2_code 3 = .ok (.iload_n 1, 1) := by decide +kernel
theorem d15_4 : decode method_2_code 4 = .ok (.idiv, 1) := by decide +kernel
theorem d15_5 : decode method_2_code 5 = .ok (.bipush 10, 2) := by decide +kernel
theorem d15_7 : decode method_2_code 7 = .ok (.irem, 1) := by decide +kernel
theorem d15_8 : decode method_2_code 8 = .ok (.iadd, 1) := by decide +kernel
theorem d15_9 : decode method_2_code 9 = .ok (.i2c, 1) := by decide +kernel
theorem d15_10 : decode method_2_code 10 = .ok (.ireturn, 1) := by decide +kernel
theorem pn_com_example_quire_quire_catalogue_RecordNumberParsePinLaw : plainName "com/example/quire/quire/catalogue/RecordNumberParsePinLaw" = true := by first | (simp [plainName, overriddenIn]; done) | decide +kernel
theorem d16_0 : decode method_3_code 0 = .ok (.iload_n 0, 1) := by decide +kernel
theorem d16_1 : decode method_3_code 1 = .ok (.ldc 7, 2) := by decide +kernel
theorem d16_3 : decode method_3_code 3 = .ok (.if_icmp .lt 6, 3) := by decide +kernel
theorem d16_9 : decode method_3_code 9 = .ok (.iload_n 0, 1) := by decide +kernel
theorem d16_10 : decode method_3_code 10 = .ok (.ldc 8, 2) := by decide +kernel
theorem d16_12 : decode method_3_code 12 = .ok (.if_icmp .lt 6, 3) := by decide +kernel
theorem d16_18 : decode method_3_code 18 = .ok (.iload_n 0, 1) := by decide +kernel
theorem d16_19 : decode method_3_code 19 = .ok (.ldc 9, 2) := by decide +kernel
theorem d16_21 : decode method_3_code 21 = .ok (.if_icmp .lt 6, 3) := by decide +kernel
theorem d16_27 : decode method_3_code 27 = .ok (.iload_n 0, 1) := by decide +kernel
theorem d16_28 : decode method_3_code 28 = .ok (.ldc 10, 2) := by decide +kernel
theorem d16_30 : decode method_3_code 30 = .ok (.if_icmp .lt 6, 3) := by decide +kernel
theorem d16_36 : decode method_3_code 36 = .ok (.iload_n 0, 1) := by decide +kernel
theorem d16_37 : decode method_3_code 37 = .ok (.ldc 11, 2) := by decide +kernel
theorem d16_39 : decode method_3_code 39 = .ok (.if_icmp .lt 6, 3) := by decide +kernel
theorem d16_45 : decode method_3_code 45 = .ok (.iload_n 0, 1) := by decide +kernel
theorem d16_46 : decode method_3_code 46 = .ok (.sipush 10000, 3) := by decide +kernel
theorem d16_49 : decode method_3_code 49 = .ok (.if_icmp .lt 5, 3) := by decide +kernel
theorem d16_54 : decode method_3_code 54 = .ok (.iload_n 0, 1) := by decide +kernel
theorem d16_55 : decode method_3_code 55 = .ok (.sipush 1000, 3) := by decide +kernel
theorem d16_58 : decode method_3_code 58 = .ok (.if_icmp .lt 5, 3) := by decide +kernel
theorem d16_63 : decode method_3_code 63 = .ok (.iload_n 0, 1) := by decide +kernel
theorem d16_64 : decode method_3_code 64 = .ok (.bipush 100, 2) := by decide +kernel
theorem d16_66 : decode method_3_code 66 = .ok (.if_icmp .lt 5, 3) := by decide +kernel
theorem d16_71 : decode method_3_code 71 = .ok (.iload_n 0, 1) := by decide +kernel
theorem d16_72 : decode method_3_code 72 = .ok (.bipush 10, 2) := by decide +kernel
theorem d16_74 : decode method_3_code 74 = .ok (.if_icmp .lt 5, 3) := by decide +kernel
theorem d16_79 : decode method_3_code 79 = .ok (.iconst 1, 1) := by decide +kernel
theorem d16_80 : decode method_3_code 80 = .ok (.ireturn, 1) := by decide +kernel
theorem d16_77 : decode method_3_code 77 = .ok (.iconst 2, 1) := by decide +kernel
theorem d16_78 : decode method_3_code 78 = .ok (.ireturn, 1) := by decide +kernel
theorem d16_69 : decode method_3_code 69 = .ok (.iconst 3, 1) := by decide +kernel
theorem d16_70 : decode method_3_code 70 = .ok (.ireturn, 1) := by decide +kernel
theorem d16_61 : decode method_3_code 61 = .ok (.iconst 4, 1) := by decide +kernel
theorem d16_62 : decode method_3_code 62 = .ok (.ireturn, 1) := by decide +kernel
theorem d16_52 : decode method_3_code 52 = .ok (.iconst 5, 1) := by decide +kernel
theorem d16_53 : decode method_3_code 53 = .ok (.ireturn, 1) := by decide +kernel
theorem d16_42 : decode method_3_code 42 = .ok (.bipush 6, 2) := by decide +kernel
theorem d16_44 : decode method_3_code 44 = .ok (.ireturn, 1) := by decide +kernel
theorem d16_33 : decode method_3_code 33 = .ok (.bipush 7, 2) := by decide +kernel
theorem d16_35 : decode method_3_code 35 = .ok (.ireturn, 1) := by decide +kernel
theorem d16_24 : decode method_3_code 24 = .ok (.bipush 8, 2) := by decide +kernel
theorem d16_26 : decode method_3_code 26 = .ok (.ireturn, 1) := by decide +kernel
theorem d16_15 : decode method_3_code 15 = .ok (.bipush 9, 2) := by decide +kernel
theorem d16_17 : decode method_3_code 17 = .ok (.ireturn, 1) := by decide +kernel
theorem d16_6 : decode method_3_code 6 = .ok (.bipush 10, 2) := by decide +kernel
theorem d16_8 : decode method_3_code 8 = .ok (.ireturn, 1) := by decide +kernel
theorem d17_0 : decode method_4_code 0 = .ok (.iload_n 1, 1) := by decide +kernel
theorem d17_1 : decode method_4_code 1 = .ok (.iconst 1, 1) := by decide +kernel
theorem d17_2 : decode method_4_code 2 = .ok (.if_icmp .ne 21, 3) := by decide +kernel
theorem d17_23 : decode method_4_code 23 = .ok (.iload_n 1, 1) := by decide +kernel
theorem d17_24 : decode method_4_code 24 = .ok (.iconst 2, 1) := by decide +kernel
theorem d17_25 : decode method_4_code 25 = .ok (.if_icmp .ne 28, 3) := by decide +kernel
theorem d17_53 : decode method_4_code 53 = .ok (.iload_n 1, 1) := by decide +kernel
theorem d17_54 : decode method_4_code 54 = .ok (.iconst 3, 1) := by decide +kernel
theorem d17_55 : decode method_4_code 55 = .ok (.if_icmp .ne 35, 3) := by decide +kernel
theorem d17_90 : decode method_4_code 90 = .ok (.iload_n 1, 1) := by decide +kernel
theorem d17_91 : decode method_4_code 91 = .ok (.iconst 4, 1) := by decide +kernel
theorem d17_92 : decode method_4_code 92 = .ok (.if_icmp .ne 42, 3) := by decide +kernel
theorem d17_134 : decode method_4_code 134 = .ok (.iload_n 1, 1) := by decide +kernel
theorem d17_135 : decode method_4_code 135 = .ok (.iconst 5, 1) := by decide +kernel
theorem d17_136 : decode method_4_code 136 = .ok (.if_icmp .ne 49, 3) := by decide +kernel
theorem d17_185 : decode method_4_code 185 = .ok (.iload_n 1, 1) := by decide +kernel
theorem d17_186 : decode method_4_code 186 = .ok (.bipush 6, 2) := by decide +kernel
theorem d17_188 : decode method_4_code 188 = .ok (.if_icmp .ne 57, 3) := by decide +kernel
theorem d17_245 : decode method_4_code 245 = .ok (.iload_n 1, 1) := by decide +kernel
theorem d17_246 : decode method_4_code 246 = .ok (.bipush 7, 2) := by decide +kernel
theorem d17_248 : decode method_4_code 248 = .ok (.if_icmp .ne 64, 3) := by decide +kernel
theorem d17_312 : decode method_4_code 312 = .ok (.iload_n 1, 1) := by decide +kernel
theorem d17_313 : decode method_4_code 313 = .ok (.bipush 8, 2) := by decide +kernel
theorem d17_315 : decode method_4_code 315 = .ok (.if_icmp .ne 71, 3) := by decide +kernel
theorem d17_386 : decode method_4_code 386 = .ok (.iload_n 1, 1) := by decide +kernel
theorem d17_387 : decode method_4_code 387 = .ok (.bipush 9, 2) := by decide +kernel
theorem d17_389 : decode method_4_code 389 = .ok (.if_icmp .ne 78, 3) := by decide +kernel
theorem d17_467 : decode method_4_code 467 = .ok (.iload_n 1, 1) := by decide +kernel
theorem d17_468 : decode method_4_code 468 = .ok (.bipush 10, 2) := by decide +kernel
theorem d17_470 : decode method_4_code 470 = .ok (.if_icmp .ne 85, 3) := by decide +kernel
theorem d17_555 : decode method_4_code 555 = .ok (.iload_n 1, 1) := by decide +kernel
theorem d17_556 : decode method_4_code 556 = .ok (.bipush 11, 2) := by decide +kernel
theorem d17_558 : decode method_4_code 558 = .ok (.if_icmp .ne 92, 3) := by decide +kernel
theorem d17_650 : decode method_4_code 650 = .ok (.new 12, 3) := by decide +kernel
theorem d17_653 : decode method_4_code 653 = .ok (.dup, 1) := by decide +kernel
theorem d17_654 : decode method_4_code 654 = .ok (.aload_n 0, 1) := by decide +kernel
theorem d17_655 : decode method_4_code 655 = .ok (.invokespecial 14, 3) := by decide +kernel
theorem pd__28__5b_C_29_V : parseMethodDescriptor "([C)V" = some ⟨[(.array .char)], none⟩ := by decide +kernel
theorem d17_658 : decode method_4_code 658 = .ok (.areturn, 1) := by decide +kernel
theorem d17_561 : decode method_4_code 561 = .ok (.new 12, 3) := by decide +kernel
theorem d17_564 : decode method_4_code 564 = .ok (.dup, 1) := by decide +kernel
theorem d17_565 : decode method_4_code 565 = .ok (.bipush 11, 2) := by decide +kernel
theorem d17_567 : decode method_4_code 567 = .ok (.newarray .char, 2) := by decide +kernel
theorem d17_569 : decode method_4_code 569 = .ok (.dup, 1) := by decide +kernel
theorem d17_570 : decode method_4_code 570 = .ok (.iconst 0, 1) := by decide +kernel
theorem d17_571 : decode method_4_code 571 = .ok (.aload_n 0, 1) := by decide +kernel
theorem d17_572 : decode method_4_code 572 = .ok (.iconst 1, 1) := by decide +kernel
theorem d17_573 : decode method_4_code 573 = .ok (.caload, 1) := by decide +kernel
theorem d17_574 : decode method_4_code 574 = .ok (.castore, 1) := by decide +kernel
theorem d17_575 : decode method_4_code 575 = .ok (.dup, 1) := by decide +kernel
theorem d17_576 : decode method_4_code 576 = .ok (.iconst 1, 1) := by decide +kernel
theorem d17_577 : decode method_4_code 577 = .ok (.aload_n 0, 1) := by decide +kernel
theorem d17_578 : decode method_4_code 578 = .ok (.iconst 2, 1) := by decide +kernel
theorem d17_579 : decode method_4_code 579 = .ok (.caload, 1) := by decide +kernel
theorem d17_580 : decode method_4_code 580 = .ok (.castore, 1) := by decide +kernel
theorem d17_581 : decode method_4_code 581 = .ok (.dup, 1) := by decide +kernel
theorem d17_582 : decode method_4_code 582 = .ok (.iconst 2, 1) := by decide +kernel
theorem d17_583 : decode method_4_code 583 = .ok (.aload_n 0, 1) := by decide +kernel
theorem d17_584 : decode method_4_code 584 = .ok (.iconst 3, 1) := by decide +kernel
theorem d17_585 : decode method_4_code 585 = .ok (.caload, 1) := by decide +kernel
theorem d17_586 : decode method_4_code 586 = .ok (.castore, 1) := by decide +kernel
theorem d17_587 : decode method_4_code 587 = .ok (.dup, 1) := by decide +kernel
theorem d17_588 : decode method_4_code 588 = .ok (.iconst 3, 1) := by decide +kernel
theorem d17_589 : decode method_4_code 589 = .ok (.aload_n 0, 1) := by decide +kernel
theorem d17_590 : decode method_4_code 590 = .ok (.iconst 4, 1) := by decide +kernel
theorem d17_591 : decode method_4_code 591 = .ok (.caload, 1) := by decide +kernel
theorem d17_592 : decode method_4_code 592 = .ok (.castore, 1) := by decide +kernel
theorem d17_593 : decode method_4_code 593 = .ok (.dup, 1) := by decide +kernel
theorem d17_594 : decode method_4_code 594 = .ok (.iconst 4, 1) := by decide +kernel
theorem d17_595 : decode method_4_code 595 = .ok (.aload_n 0, 1) := by decide +kernel
theorem d17_596 : decode method_4_code 596 = .ok (.iconst 5, 1) := by decide +kernel
theorem d17_597 : decode method_4_code 597 = .ok (.caload, 1) := by decide +kernel
theorem d17_598 : decode method_4_code 598 = .ok (.castore, 1) := by decide +kernel
theorem d17_599 : decode method_4_code 599 = .ok (.dup, 1) := by decide +kernel
theorem d17_600 : decode method_4_code 600 = .ok (.iconst 5, 1) := by decide +kernel
theorem d17_601 : decode method_4_code 601 = .ok (.aload_n 0, 1) := by decide +kernel
theorem d17_602 : decode method_4_code 602 = .ok (.bipush 6, 2) := by decide +kernel
theorem d17_604 : decode method_4_code 604 = .ok (.caload, 1) := by decide +kernel
theorem d17_605 : decode method_4_code 605 = .ok (.castore, 1) := by decide +kernel
theorem d17_606 : decode method_4_code 606 = .ok (.dup, 1) := by decide +kernel
theorem d17_607 : decode method_4_code 607 = .ok (.bipush 6, 2) := by decide +kernel
theorem d17_609 : decode method_4_code 609 = .ok (.aload_n 0, 1) := by decide +kernel
theorem d17_610 : decode method_4_code 610 = .ok (.bipush 7, 2) := by decide +kernel
theorem d17_612 : decode method_4_code 612 = .ok (.caload, 1) := by decide +kernel
theorem d17_613 : decode method_4_code 613 = .ok (.castore, 1) := by decide +kernel
theorem d17_614 : decode method_4_code 614 = .ok (.dup, 1) := by decide +kernel
theorem d17_615 : decode method_4_code 615 = .ok (.bipush 7, 2) := by decide +kernel
theorem d17_617 : decode method_4_code 617 = .ok (.aload_n 0, 1) := by decide +kernel
theorem d17_618 : decode method_4_code 618 = .ok (.bipush 8, 2) := by decide +kernel
theorem d17_620 : decode method_4_code 620 = .ok (.caload, 1) := by decide +kernel
theorem d17_621 : decode method_4_code 621 = .ok (.castore, 1) := by decide +kernel
theorem d17_622 : decode method_4_code 622 = .ok (.dup, 1) := by decide +kernel
theorem d17_623 : decode method_4_code 623 = .ok (.bipush 8, 2) := by decide +kernel
theorem d17_625 : decode method_4_code 625 = .ok (.aload_n 0, 1) := by decide +kernel
theorem d17_626 : decode method_4_code 626 = .ok (.bipush 9, 2) := by decide +kernel
theorem d17_628 : decode method_4_code 628 = .ok (.caload, 1) := by decide +kernel
theorem d17_629 : decode method_4_code 629 = .ok (.castore, 1) := by decide +kernel
theorem d17_630 : decode method_4_code 630 = .ok (.dup, 1) := by decide +kernel
theorem d17_631 : decode method_4_code 631 = .ok (.bipush 9, 2) := by decide +kernel
theorem d17_633 : decode method_4_code 633 = .ok (.aload_n 0, 1) := by decide +kernel
theorem d17_634 : decode method_4_code 634 = .ok (.bipush 10, 2) := by decide +kernel
theorem d17_636 : decode method_4_code 636 = .ok (.caload, 1) := by decide +kernel
theorem d17_637 : decode method_4_code 637 = .ok (.castore, 1) := by decide +kernel
theorem d17_638 : decode method_4_code 638 = .ok (.dup, 1) := by decide +kernel
theorem d17_639 : decode method_4_code 639 = .ok (.bipush 10, 2) := by decide +kernel
theorem d17_641 : decode method_4_code 641 = .ok (.aload_n 0, 1) := by decide +kernel
theorem d17_642 : decode method_4_code 642 = .ok (.bipush 11, 2) := by decide +kernel
theorem d17_644 : decode method_4_code 644 = .ok (.caload, 1) := by decide +kernel
theorem d17_645 : decode method_4_code 645 = .ok (.castore, 1) := by decide +kernel
theorem d17_646 : decode method_4_code 646 = .ok (.invokespecial 14, 3) := by decide +kernel
theorem d17_649 : decode method_4_code 649 = .ok (.areturn, 1) := by decide +kernel
theorem d17_473 : decode method_4_code 473 = .ok (.new 12, 3) := by decide +kernel
theorem d17_476 : decode method_4_code 476 = .ok (.dup, 1) := by decide +kernel
theorem d17_477 : decode method_4_code 477 = .ok (.bipush 10, 2) := by decide +kernel
theorem d17_479 : decode method_4_code 479 = .ok (.newarray .char, 2) := by decide +kernel
theorem d17_481 : decode method_4_code 481 = .ok (.dup, 1) := by decide +kernel
theorem d17_482 : decode method_4_code 482 = .ok (.iconst 0, 1) := by decide +kernel
theorem d17_483 : decode method_4_code 483 = .ok (.aload_n 0, 1) := by decide +kernel
theorem d17_484 : decode method_4_code 484 = .ok (.iconst 2, 1) := by decide +kernel
theorem d17_485 : decode method_4_code 485 = .ok (.caload, 1) := by decide +kernel
theorem d17_486 : decode method_4_code 486 = .ok (.castore, 1) := by decide +kernel
theorem d17_487 : decode method_4_code 487 = .ok (.dup, 1) := by decide +kernel
theorem d17_488 : decode method_4_code 488 = .ok (.iconst 1, 1) := by decide +kernel
theorem d17_489 : decode method_4_code 489 = .ok (.aload_n 0, 1) := by decide +kernel
theorem d17_490 : decode method_4_code 490 = .ok (.iconst 3, 1) := by decide +kernel
theorem d17_491 : decode method_4_code 491 = .ok (.caload, 1) := by decide +kernel
theorem d17_492 : decode method_4_code 492 = .ok (.castore, 1) := by decide +kernel
theorem d17_493 : decode method_4_code 493 = .ok (.dup, 1) := by decide +kernel
theorem d17_494 : decode method_4_code 494 = .ok (.iconst 2, 1) := by decide +kernel
theorem d17_495 : decode method_4_code 495 = .ok (.aload_n 0, 1) := by decide +kernel
theorem d17_496 : decode method_4_code 496 = .ok (.iconst 4, 1) := by decide +kernel
theorem d17_497 : decode method_4_code 497 = .ok (.caload, 1) := by decide +kernel
theorem d17_498 : decode method_4_code 498 = .ok (.castore, 1) := by decide +kernel
theorem d17_499 : decode method_4_code 499 = .ok (.dup, 1) := by decide +kernel
theorem d17_500 : decode method_4_code 500 = .ok (.iconst 3, 1) := by decide +kernel
theorem d17_501 : decode method_4_code 501 = .ok (.aload_n 0, 1) := by decide +kernel
theorem d17_502 : decode method_4_code 502 = .ok (.iconst 5, 1) := by decide +kernel
theorem d17_503 : decode method_4_code 503 = .ok (.caload, 1) := by decide +kernel
theorem d17_504 : decode method_4_code 504 = .ok (.castore, 1) := by decide +kernel
theorem d17_505 : decode method_4_code 505 = .ok (.dup, 1) := by decide +kernel
theorem d17_506 : decode method_4_code 506 = .ok (.iconst 4, 1) := by decide +kernel
theorem d17_507 : decode method_4_code 507 = .ok (.aload_n 0, 1) := by decide +kernel
theorem d17_508 : decode method_4_code 508 = .ok (.bipush 6, 2) := by decide +kernel
theorem d17_510 : decode method_4_code 510 = .ok (.caload, 1) := by decide +kernel
theorem d17_511 : decode method_4_code 511 = .ok (.castore, 1) := by decide +kernel
theorem d17_512 : decode method_4_code 512 = .ok (.dup, 1) := by decide +kernel
theorem d17_513 : decode method_4_code 513 = .ok (.iconst 5, 1) := by decide +kernel
theorem d17_514 : decode method_4_code 514 = .ok (.aload_n 0, 1) := by decide +kernel
theorem d17_515 : decode method_4_code 515 = .ok (.bipush 7, 2) := by decide +kernel
theorem d17_517 : decode method_4_code 517 = .ok (.caload, 1) := by decide +kernel
theorem d17_518 : decode method_4_code 518 = .ok (.castore, 1) := by decide +kernel
theorem d17_519 : decode method_4_code 519 = .ok (.dup, 1) := by decide +kernel
theorem d17_520 : decode method_4_code 520 = .ok (.bipush 6, 2) := by decide +kernel
theorem d17_522 : decode method_4_code 522 = .ok (.aload_n 0, 1) := by decide +kernel
theorem d17_523 : decode method_4_code 523 = .ok (.bipush 8, 2) := by decide +kernel
theorem d17_525 : decode method_4_code 525 = .ok (.caload, 1) := by decide +kernel
theorem d17_526 : decode method_4_code 526 = .ok (.castore, 1) := by decide +kernel
theorem d17_527 : decode method_4_code 527 = .ok (.dup, 1) := by decide +kernel
theorem d17_528 : decode method_4_code 528 = .ok (.bipush 7, 2) := by decide +kernel
theorem d17_530 : decode method_4_code 530 = .ok (.aload_n 0, 1) := by decide +kernel
theorem d17_531 : decode method_4_code 531 = .ok (.bipush 9, 2) := by decide +kernel
theorem d17_533 : decode method_4_code 533 = .ok (.caload, 1) := by decide +kernel
theorem d17_534 : decode method_4_code 534 = .ok (.castore, 1) := by decide +kernel
theorem d17_535 : decode method_4_code 535 = .ok (.dup, 1) := by decide +kernel
theorem d17_536 : decode method_4_code 536 = .ok (.bipush 8, 2) := by decide +kernel
theorem d17_538 : decode method_4_code 538 = .ok (.aload_n 0, 1) := by decide +kernel
theorem d17_539 : decode method_4_code 539 = .ok (.bipush 10, 2) := by decide +kernel
theorem d17_541 : decode method_4_code 541 = .ok (.caload, 1) := by decide +kernel
theorem d17_542 : decode method_4_code 542 = .ok (.castore, 1) := by decide +kernel
theorem d17_543 : decode method_4_code 543 = .ok (.dup, 1) := by decide +kernel
theorem d17_544 : decode method_4_code 544 = .ok (.bipush 9, 2) := by decide +kernel
theorem d17_546 : decode method_4_code 546 = .ok (.aload_n 0, 1) := by decide +kernel
theorem d17_547 : decode method_4_code 547 = .ok (.bipush 11, 2) := by decide +kernel
theorem d17_549 : decode method_4_code 549 = .ok (.caload, 1) := by decide +kernel
theorem d17_550 : decode method_4_code 550 = .ok (.castore, 1) := by decide +kernel
theorem d17_551 : decode method_4_code 551 = .ok (.invokespecial 14, 3) := by decide +kernel
theorem d17_554 : decode method_4_code 554 = .ok (.areturn, 1) := by decide +kernel
theorem d17_392 : decode method_4_code 392 = .ok (.new 12, 3) := by decide +kernel
theorem d17_395 : decode method_4_code 395 = .ok (.dup, 1) := by decide +kernel
theorem d17_396 : decode method_4_code 396 = .ok (.bipush 9, 2) := by decide +kernel
theorem d17_398 : decode method_4_code 398 = .ok (.newarray .char, 2) := by decide +kernel
theorem d17_400 : decode method_4_code 400 = .ok (.dup, 1) := by decide +kernel
theorem d17_401 : decode method_4_code 401 = .ok (.iconst 0, 1) := by decide +kernel
theorem d17_402 : decode method_4_code 402 = .ok (.aload_n 0, 1) := by decide +kernel
theorem d17_403 : decode method_4_code 403 = .ok (.iconst 3, 1) := by decide +kernel
theorem d17_404 : decode method_4_code 404 = .ok (.caload, 1) := by decide +kernel
theorem d17_405 : decode method_4_code 405 = .ok (.castore, 1) := by decide +kernel
theorem d17_406 : decode method_4_code 406 = .ok (.dup, 1) := by decide +kernel
theorem d17_407 : decode method_4_code 407 = .ok (.iconst 1, 1) := by decide +kernel
theorem d17_408 : decode method_4_code 408 = .ok (.aload_n 0, 1) := by decide +kernel
theorem d17_409 : decode method_4_code 409 = .ok (.iconst 4, 1) := by decide +kernel
theorem d17_410 : decode method_4_code 410 = .ok (.caload, 1) := by decide +kernel
theorem d17_411 : decode method_4_code 411 = .ok (.castore, 1) := by decide +kernel
theorem d17_412 : decode method_4_code 412 = .ok (.dup, 1) := by decide +kernel
theorem d17_413 : decode method_4_code 413 = .ok (.iconst 2, 1) := by decide +kernel
theorem d17_414 : decode method_4_code 414 = .ok (.aload_n 0, 1) := by decide +kernel
theorem d17_415 : decode method_4_code 415 = .ok (.iconst 5, 1) := by decide +kernel
theorem d17_416 : decode method_4_code 416 = .ok (.caload, 1) := by decide +kernel
theorem d17_417 : decode method_4_code 417 = .ok (.castore, 1) := by decide +kernel
theorem d17_418 : decode method_4_code 418 = .ok (.dup, 1) := by decide +kernel
theorem d17_419 : decode method_4_code 419 = .ok (.iconst 3, 1) := by decide +kernel
theorem d17_420 : decode method_4_code 420 = .ok (.aload_n 0, 1) := by decide +kernel
theorem d17_421 : decode method_4_code 421 = .ok (.bipush 6, 2) := by decide +kernel
theorem d17_423 : decode method_4_code 423 = .ok (.caload, 1) := by decide +kernel
theorem d17_424 : decode method_4_code 424 = .ok (.castore, 1) := by decide +kernel
theorem d17_425 : decode method_4_code 425 = .ok (.dup, 1) := by decide +kernel
theorem d17_426 : decode method_4_code 426 = .ok (.iconst 4, 1) := by decide +kernel
theorem d17_427 : decode method_4_code 427 = .ok (.aload_n 0, 1) := by decide +kernel
theorem d17_428 : decode method_4_code 428 = .ok (.bipush 7, 2) := by decide +kernel
theorem d17_430 : decode method_4_code 430 = .ok (.caload, 1) := by decide +kernel
theorem d17_431 : decode method_4_code 431 = .ok (.castore, 1) := by decide +kernel
theorem d17_432 : decode method_4_code 432 = .ok (.dup, 1) := by decide +kernel
theorem d17_433 : decode method_4_code 433 = .ok (.iconst 5, 1) := by decide +kernel
theorem d17_434 : decode method_4_code 434 = .ok (.aload_n 0, 1) := by decide +kernel
theorem d17_435 : decode method_4_code 435 = .ok (.bipush 8, 2) := by decide +kernel
theorem d17_437 : decode method_4_code 437 = .ok (.caload, 1) := by decide +kernel
theorem d17_438 : decode method_4_code 438 = .ok (.castore, 1) := by decide +kernel
theorem d17_439 : decode method_4_code 439 = .ok (.dup, 1) := by decide +kernel
theorem d17_440 : decode method_4_code 440 = .ok (.bipush 6, 2) := by decide +kernel
theorem d17_442 : decode method_4_code 442 = .ok (.aload_n 0, 1) := by decide +kernel
theorem d17_443 : decode method_4_code 443 = .ok (.bipush 9, 2) := by decide +kernel
theorem d17_445 : decode method_4_code 445 = .ok (.caload, 1) := by decide +kernel
theorem d17_446 : decode method_4_code 446 = .ok (.castore, 1) := by decide +kernel
theorem d17_447 : decode method_4_code 447 = .ok (.dup, 1) := by decide +kernel
theorem d17_448 : decode method_4_code 448 = .ok (.bipush 7, 2) := by decide +kernel
theorem d17_450 : decode method_4_code 450 = .ok (.aload_n 0, 1) := by decide +kernel
theorem d17_451 : decode method_4_code 451 = .ok (.bipush 10, 2) := by decide +kernel
theorem d17_453 : decode method_4_code 453 = .ok (.caload, 1) := by decide +kernel
theorem d17_454 : decode method_4_code 454 = .ok (.castore, 1) := by decide +kernel
theorem d17_455 : decode method_4_code 455 = .ok (.dup, 1) := by decide +kernel
theorem d17_456 : decode method_4_code 456 = .ok (.bipush 8, 2) := by decide +kernel
theorem d17_458 : decode method_4_code 458 = .ok (.aload_n 0, 1) := by decide +kernel
theorem d17_459 : decode method_4_code 459 = .ok (.bipush 11, 2) := by decide +kernel
theorem d17_461 : decode method_4_code 461 = .ok (.caload, 1) := by decide +kernel
theorem d17_462 : decode method_4_code 462 = .ok (.castore, 1) := by decide +kernel
theorem d17_463 : decode method_4_code 463 = .ok (.invokespecial 14, 3) := by decide +kernel
theorem d17_466 : decode method_4_code 466 = .ok (.areturn, 1) := by decide +kernel
theorem d17_318 : decode method_4_code 318 = .ok (.new 12, 3) := by decide +kernel
theorem d17_321 : decode method_4_code 321 = .ok (.dup, 1) := by decide +kernel
theorem d17_322 : decode method_4_code 322 = .ok (.bipush 8, 2) := by decide +kernel
theorem d17_324 : decode method_4_code 324 = .ok (.newarray .char, 2) := by decide +kernel
theorem d17_326 : decode method_4_code 326 = .ok (.dup, 1) := by decide +kernel
theorem d17_327 : decode method_4_code 327 = .ok (.iconst 0, 1) := by decide +kernel
theorem d17_328 : decode method_4_code 328 = .ok (.aload_n 0, 1) := by decide +kernel
theorem d17_329 : decode method_4_code 329 = .ok (.iconst 4, 1) := by decide +kernel
theorem d17_330 : decode method_4_code 330 = .ok (.caload, 1) := by decide +kernel
theorem d17_331 : decode method_4_code 331 = .ok (.castore, 1) := by decide +kernel
theorem d17_332 : decode method_4_code 332 = .ok (.dup, 1) := by decide +kernel
theorem d17_333 : decode method_4_code 333 = .ok (.iconst 1, 1) := by decide +kernel
theorem d17_334 : decode method_4_code 334 = .ok (.aload_n 0, 1) := by decide +kernel
theorem d17_335 : decode method_4_code 335 = .ok (.iconst 5, 1) := by decide +kernel
theorem d17_336 : decode method_4_code 336 = .ok (.caload, 1) := by decide +kernel
theorem d17_337 : decode method_4_code 337 = .ok (.castore, 1) := by decide +kernel
theorem d17_338 : decode method_4_code 338 = .ok (.dup, 1) := by decide +kernel
theorem d17_339 : decode method_4_code 339 = .ok (.iconst 2, 1) := by decide +kernel
theorem d17_340 : decode method_4_code 340 = .ok (.aload_n 0, 1) := by decide +kernel
theorem d17_341 : decode method_4_code 341 = .ok (.bipush 6, 2) := by decide +kernel
theorem d17_343 : decode method_4_code 343 = .ok (.caload, 1) := by decide +kernel
theorem d17_344 : decode method_4_code 344 = .ok (.castore, 1) := by decide +kernel
theorem d17_345 : decode method_4_code 345 = .ok (.dup, 1) := by decide +kernel
theorem d17_346 : decode method_4_code 346 = .ok (.iconst 3, 1) := by decide +kernel
theorem d17_347 : decode method_4_code 347 = .ok (.aload_n 0, 1) := by decide +kernel
theorem d17_348 : decode method_4_code 348 = .ok (.bipush 7, 2) := by decide +kernel
theorem d17_350 : decode method_4_code 350 = .ok (.caload, 1) := by decide +kernel
theorem d17_351 : decode method_4_code 351 = .ok (.castore, 1) := by decide +kernel
theorem d17_352 : decode method_4_code 352 = .ok (.dup, 1) := by decide +kernel
theorem d17_353 : decode method_4_code 353 = .ok (.iconst 4, 1) := by decide +kernel
theorem d17_354 : decode method_4_code 354 = .ok (.aload_n 0, 1) := by decide +kernel
theorem d17_355 : decode method_4_code 355 = .ok (.bipush 8, 2) := by decide +kernel
theorem d17_357 : decode method_4_code 357 = .ok (.caload, 1) := by decide +kernel
theorem d17_358 : decode method_4_code 358 = .ok (.castore, 1) := by decide +kernel
theorem d17_359 : decode method_4_code 359 = .ok (.dup, 1) := by decide +kernel
theorem d17_360 : decode method_4_code 360 = .ok (.iconst 5, 1) := by decide +kernel
theorem d17_361 : decode method_4_code 361 = .ok (.aload_n 0, 1) := by decide +kernel
theorem d17_362 : decode method_4_code 362 = .ok (.bipush 9, 2) := by decide +kernel
theorem d17_364 : decode method_4_code 364 = .ok (.caload, 1) := by decide +kernel
theorem d17_365 : decode method_4_code 365 = .ok (.castore, 1) := by decide +kernel
theorem d17_366 : decode method_4_code 366 = .ok (.dup, 1) := by decide +kernel
theorem d17_367 : decode method_4_code 367 = .ok (.bipush 6, 2) := by decide +kernel
theorem d17_369 : decode method_4_code 369 = .ok (.aload_n 0, 1) := by decide +kernel
theorem d17_370 : decode method_4_code 370 = .ok (.bipush 10, 2) := by decide +kernel
theorem d17_372 : decode method_4_code 372 = .ok (.caload, 1) := by decide +kernel
theorem d17_373 : decode method_4_code 373 = .ok (.castore, 1) := by decide +kernel
theorem d17_374 : decode method_4_code 374 = .ok (.dup, 1) := by decide +kernel
theorem d17_375 : decode method_4_code 375 = .ok (.bipush 7, 2) := by decide +kernel
theorem d17_377 : decode method_4_code 377 = .ok (.aload_n 0, 1) := by decide +kernel
theorem d17_378 : decode method_4_code 378 = .ok (.bipush 11, 2) := by decide +kernel
theorem d17_380 : decode method_4_code 380 = .ok (.caload, 1) := by decide +kernel
theorem d17_381 : decode method_4_code 381 = .ok (.castore, 1) := by decide +kernel
theorem d17_382 : decode method_4_code 382 = .ok (.invokespecial 14, 3) := by decide +kernel
theorem d17_385 : decode method_4_code 385 = .ok (.areturn, 1) := by decide +kernel
theorem d17_251 : decode method_4_code 251 = .ok (.new 12, 3) := by decide +kernel
theorem d17_254 : decode method_4_code 254 = .ok (.dup, 1) := by decide +kernel
theorem d17_255 : decode method_4_code 255 = .ok (.bipush 7, 2) := by decide +kernel
theorem d17_257 : decode method_4_code 257 = .ok (.newarray .char, 2) := by decide +kernel
theorem d17_259 : decode method_4_code 259 = .ok (.dup, 1) := by decide +kernel
theorem d17_260 : decode method_4_code 260 = .ok (.iconst 0, 1) := by decide +kernel
theorem d17_261 : decode method_4_code 261 = .ok (.aload_n 0, 1) := by decide +kernel
theorem d17_262 : decode method_4_code 262 = .ok (.iconst 5, 1) := by decide +kernel
theorem d17_263 : decode method_4_code 263 = .ok (.caload, 1) := by decide +kernel
theorem d17_264 : decode method_4_code 264 = .ok (.castore, 1) := by decide +kernel
theorem d17_265 : decode method_4_code 265 = .ok (.dup, 1) := by decide +kernel
theorem d17_266 : decode method_4_code 266 = .ok (.iconst 1, 1) := by decide +kernel
theorem d17_267 : decode method_4_code 267 = .ok (.aload_n 0, 1) := by decide +kernel
theorem d17_268 : decode method_4_code 268 = .ok (.bipush 6, 2) := by decide +kernel
theorem d17_270 : decode method_4_code 270 = .ok (.caload, 1) := by decide +kernel
theorem d17_271 : decode method_4_code 271 = .ok (.castore, 1) := by decide +kernel
theorem d17_272 : decode method_4_code 272 = .ok (.dup, 1) := by decide +kernel
theorem d17_273 : decode method_4_code 273 = .ok (.iconst 2, 1) := by decide +kernel
theorem d17_274 : decode method_4_code 274 = .ok (.aload_n 0, 1) := by decide +kernel
theorem d17_275 : decode method_4_code 275 = .ok (.bipush 7, 2) := by decide +kernel
theorem d17_277 : decode method_4_code 277 = .ok (.caload, 1) := by decide +kernel
theorem d17_278 : decode method_4_code 278 = .ok (.castore, 1) := by decide +kernel
theorem d17_279 : decode method_4_code 279 = .ok (.dup, 1) := by decide +kernel
theorem d17_280 : decode method_4_code 280 = .ok (.iconst 3, 1) := by decide +kernel
theorem d17_281 : decode method_4_code 281 = .ok (.aload_n 0, 1) := by decide +kernel
theorem d17_282 : decode method_4_code 282 = .ok (.bipush 8, 2) := by decide +kernel
theorem d17_284 : decode method_4_code 284 = .ok (.caload, 1) := by decide +kernel
theorem d17_285 : decode method_4_code 285 = .ok (.castore, 1) := by decide +kernel
theorem d17_286 : decode method_4_code 286 = .ok (.dup, 1) := by decide +kernel
theorem d17_287 : decode method_4_code 287 = .ok (.iconst 4, 1) := by decide +kernel
theorem d17_288 : decode method_4_code 288 = .ok (.aload_n 0, 1) := by decide +kernel
theorem d17_289 : decode method_4_code 289 = .ok (.bipush 9, 2) := by decide +kernel
theorem d17_291 : decode method_4_code 291 = .ok (.caload, 1) := by decide +kernel
theorem d17_292 : decode method_4_code 292 = .ok (.castore, 1) := by decide +kernel
theorem d17_293 : decode method_4_code 293 = .ok (.dup, 1) := by decide +kernel
theorem d17_294 : decode method_4_code 294 = .ok (.iconst 5, 1) := by decide +kernel
theorem d17_295 : decode method_4_code 295 = .ok (.aload_n 0, 1) := by decide +kernel
theorem d17_296 : decode method_4_code 296 = .ok (.bipush 10, 2) := by decide +kernel
theorem d17_298 : decode method_4_code 298 = .ok (.caload, 1) := by decide +kernel
theorem d17_299 : decode method_4_code 299 = .ok (.castore, 1) := by decide +kernel
theorem d17_300 : decode method_4_code 300 = .ok (.dup, 1) := by decide +kernel
theorem d17_301 : decode method_4_code 301 = .ok (.bipush 6, 2) := by decide +kernel
theorem d17_303 : decode method_4_code 303 = .ok (.aload_n 0, 1) := by decide +kernel
theorem d17_304 : decode method_4_code 304 = .ok (.bipush 11, 2) := by decide +kernel
theorem d17_306 : decode method_4_code 306 = .ok (.caload, 1) := by decide +kernel
theorem d17_307 : decode method_4_code 307 = .ok (.castore, 1) := by decide +kernel
theorem d17_308 : decode method_4_code 308 = .ok (.invokespecial 14, 3) := by decide +kernel
theorem d17_311 : decode method_4_code 311 = .ok (.areturn, 1) := by decide +kernel
theorem d17_191 : decode method_4_code 191 = .ok (.new 12, 3) := by decide +kernel
theorem d17_194 : decode method_4_code 194 = .ok (.dup, 1) := by decide +kernel
theorem d17_195 : decode method_4_code 195 = .ok (.bipush 6, 2) := by decide +kernel
theorem d17_197 : decode method_4_code 197 = .ok (.newarray .char, 2) := by decide +kernel
theorem d17_199 : decode method_4_code 199 = .ok (.dup, 1) := by decide +kernel
theorem d17_200 : decode method_4_code 200 = .ok (.iconst 0, 1) := by decide +kernel
theorem d17_201 : decode method_4_code 201 = .ok (.aload_n 0, 1) := by decide +kernel
theorem d17_202 : decode method_4_code 202 = .ok (.bipush 6, 2) := by decide +kernel
theorem d17_204 : decode method_4_code 204 = .ok (.caload, 1) := by decide +kernel
theorem d17_205 : decode method_4_code 205 = .ok (.castore, 1) := by decide +kernel
theorem d17_206 : decode method_4_code 206 = .ok (.dup, 1) := by decide +kernel
theorem d17_207 : decode method_4_code 207 = .ok (.iconst 1, 1) := by decide +kernel
theorem d17_208 : decode method_4_code 208 = .ok (.aload_n 0, 1) := by decide +kernel
theorem d17_209 : decode method_4_code 209 = .ok (.bipush 7, 2) := by decide +kernel
theorem d17_211 : decode method_4_code 211 = .ok (.caload, 1) := by decide +kernel
theorem d17_212 : decode method_4_code 212 = .ok (.castore, 1) := by decide +kernel
theorem d17_213 : decode method_4_code 213 = .ok (.dup, 1) := by decide +kernel
theorem d17_214 : decode method_4_code 214 = .ok (.iconst 2, 1) := by decide +kernel
theorem d17_215 : decode method_4_code 215 = .ok (.aload_n 0, 1) := by decide +kernel
theorem d17_216 : decode method_4_code 216 = .ok (.bipush 8, 2) := by decide +kernel
theorem d17_218 : decode method_4_code 218 = .ok (.caload, 1) := by decide +kernel
theorem d17_219 : decode method_4_code 219 = .ok (.castore, 1) := by decide +kernel
theorem d17_220 : decode method_4_code 220 = .ok (.dup, 1) := by decide +kernel
theorem d17_221 : decode method_4_code 221 = .ok (.iconst 3, 1) := by decide +kernel
theorem d17_222 : decode method_4_code 222 = .ok (.aload_n 0, 1) := by decide +kernel
theorem d17_223 : decode method_4_code 223 = .ok (.bipush 9, 2) := by decide +kernel
theorem d17_225 : decode method_4_code 225 = .ok (.caload, 1) := by decide +kernel
theorem d17_226 : decode method_4_code 226 = .ok (.castore, 1) := by decide +kernel
theorem d17_227 : decode method_4_code 227 = .ok (.dup, 1) := by decide +kernel
theorem d17_228 : decode method_4_code 228 = .ok (.iconst 4, 1) := by decide +kernel
theorem d17_229 : decode method_4_code 229 = .ok (.aload_n 0, 1) := by decide +kernel
theorem d17_230 : decode method_4_code 230 = .ok (.bipush 10, 2) := by decide +kernel
theorem d17_232 : decode method_4_code 232 = .ok (.caload, 1) := by decide +kernel
theorem d17_233 : decode method_4_code 233 = .ok (.castore, 1) := by decide +kernel
theorem d17_234 : decode method_4_code 234 = .ok (.dup, 1) := by decide +kernel
theorem d17_235 : decode method_4_code 235 = .ok (.iconst 5, 1) := by decide +kernel
theorem d17_236 : decode method_4_code 236 = .ok (.aload_n 0, 1) := by decide +kernel
theorem d17_237 : decode method_4_code 237 = .ok (.bipush 11, 2) := by decide +kernel
theorem d17_239 : decode method_4_code 239 = .ok (.caload, 1) := by decide +kernel
theorem d17_240 : decode method_4_code 240 = .ok (.castore, 1) := by decide +kernel
theorem d17_241 : decode method_4_code 241 = .ok (.invokespecial 14, 3) := by decide +kernel
theorem d17_244 : decode method_4_code 244 = .ok (.areturn, 1) := by decide +kernel
theorem d17_139 : decode method_4_code 139 = .ok (.new 12, 3) := by decide +kernel
theorem d17_142 : decode method_4_code 142 = .ok (.dup, 1) := by decide +kernel
theorem d17_143 : decode method_4_code 143 = .ok (.iconst 5, 1) := by decide +kernel
theorem d17_144 : decode method_4_code 144 = .ok (.newarray .char, 2) := by decide +kernel
theorem d17_146 : decode method_4_code 146 = .ok (.dup, 1) := by decide +kernel
theorem d17_147 : decode method_4_code 147 = .ok (.iconst 0, 1) := by decide +kernel
theorem d17_148 : decode method_4_code 148 = .ok (.aload_n 0, 1) := by decide +kernel
theorem d17_149 : decode method_4_code 149 = .ok (.bipush 7, 2) := by decide +kernel
theorem d17_151 : decode method_4_code 151 = .ok (.caload, 1) := by decide +kernel
theorem d17_152 : decode method_4_code 152 = .ok (.castore, 1) := by decide +kernel
theorem d17_153 : decode method_4_code 153 = .ok (.dup, 1) := by decide +kernel
theorem d17_154 : decode method_4_code 154 = .ok (.iconst 1, 1) := by decide +kernel
theorem d17_155 : decode method_4_code 155 = .ok (.aload_n 0, 1) := by decide +kernel
theorem d17_156 : decode method_4_code 156 = .ok (.bipush 8, 2) := by decide +kernel
theorem d17_158 : decode method_4_code 158 = .ok (.caload, 1) := by decide +kernel
theorem d17_159 : decode method_4_code 159 = .ok (.castore, 1) := by decide +kernel
theorem d17_160 : decode method_4_code 160 = .ok (.dup, 1) := by decide +kernel
theorem d17_161 : decode method_4_code 161 = .ok (.iconst 2, 1) := by decide +kernel
theorem d17_162 : decode method_4_code 162 = .ok (.aload_n 0, 1) := by decide +kernel
theorem d17_163 : decode method_4_code 163 = .ok (.bipush 9, 2) := by decide +kernel
theorem d17_165 : decode method_4_code 165 = .ok (.caload, 1) := by decide +kernel
theorem d17_166 : decode method_4_code 166 = .ok (.castore, 1) := by decide +kernel
theorem d17_167 : decode method_4_code 167 = .ok (.dup, 1) := by decide +kernel
theorem d17_168 : decode method_4_code 168 = .ok (.iconst 3, 1) := by decide +kernel
theorem d17_169 : decode method_4_code 169 = .ok (.aload_n 0, 1) := by decide +kernel
theorem d17_170 : decode method_4_code 170 = .ok (.bipush 10, 2) := by decide +kernel
theorem d17_172 : decode method_4_code 172 = .ok (.caload, 1) := by decide +kernel
theorem d17_173 : decode method_4_code 173 = .ok (.castore, 1) := by decide +kernel
theorem d17_174 : decode method_4_code 174 = .ok (.dup, 1) := by decide +kernel
theorem d17_175 : decode method_4_code 175 = .ok (.iconst 4, 1) := by decide +kernel
theorem d17_176 : decode method_4_code 176 = .ok (.aload_n 0, 1) := by decide +kernel
theorem d17_177 : decode method_4_code 177 = .ok (.bipush 11, 2) := by decide +kernel
theorem d17_179 : decode method_4_code 179 = .ok (.caload, 1) := by decide +kernel
theorem d17_180 : decode method_4_code 180 = .ok (.castore, 1) := by decide +kernel
theorem d17_181 : decode method_4_code 181 = .ok (.invokespecial 14, 3) := by decide +kernel
theorem d17_184 : decode method_4_code 184 = .ok (.areturn, 1) := by decide +kernel
theorem d17_95 : decode method_4_code 95 = .ok (.new 12, 3) := by decide +kernel
theorem d17_98 : decode method_4_code 98 = .ok (.dup, 1) := by decide +kernel
theorem d17_99 : decode method_4_code 99 = .ok (.iconst 4, 1) := by decide +kernel
theorem d17_100 : decode method_4_code 100 = .ok (.newarray .char, 2) := by decide +kernel
theorem d17_102 : decode method_4_code 102 = .ok (.dup, 1) := by decide +kernel
theorem d17_103 : decode method_4_code 103 = .ok (.iconst 0, 1) := by decide +kernel
theorem d17_104 : decode method_4_code 104 = .ok (.aload_n 0, 1) := by decide +kernel
theorem d17_105 : decode method_4_code 105 = .ok (.bipush 8, 2) := by decide +kernel
theorem d17_107 : decode method_4_code 107 = .ok (.caload, 1) := by decide +kernel
theorem d17_108 : decode method_4_code 108 = .ok (.castore, 1) := by decide +kernel
theorem d17_109 : decode method_4_code 109 = .ok (.dup, 1) := by decide +kernel
theorem d17_110 : decode method_4_code 110 = .ok (.iconst 1, 1) := by decide +kernel
theorem d17_111 : decode method_4_code 111 = .ok (.aload_n 0, 1) := by decide +kernel
theorem d17_112 : decode method_4_code 112 = .ok (.bipush 9, 2) := by decide +kernel
theorem d17_114 : decode method_4_code 114 = .ok (.caload, 1) := by decide +kernel
theorem d17_115 : decode method_4_code 115 = .ok (.castore, 1) := by decide +kernel
theorem d17_116 : decode method_4_code 116 = .ok (.dup, 1) := by decide +kernel
theorem d17_117 : decode method_4_code 117 = .ok (.iconst 2, 1) := by decide +kernel
theorem d17_118 : decode method_4_code 118 = .ok (.aload_n 0, 1) := by decide +kernel
theorem d17_119 : decode method_4_code 119 = .ok (.bipush 10, 2) := by decide +kernel
theorem d17_121 : decode method_4_code 121 = .ok (.caload, 1) := by decide +kernel
theorem d17_122 : decode method_4_code 122 = .ok (.castore, 1) := by decide +kernel
theorem d17_123 : decode method_4_code 123 = .ok (.dup, 1) := by decide +kernel
theorem d17_124 : decode method_4_code 124 = .ok (.iconst 3, 1) := by decide +kernel
theorem d17_125 : decode method_4_code 125 = .ok (.aload_n 0, 1) := by decide +kernel
theorem d17_126 : decode method_4_code 126 = .ok (.bipush 11, 2) := by decide +kernel
theorem d17_128 : decode method_4_code 128 = .ok (.caload, 1) := by decide +kernel
theorem d17_129 : decode method_4_code 129 = .ok (.castore, 1) := by decide +kernel
theorem d17_130 : decode method_4_code 130 = .ok (.invokespecial 14, 3) := by decide +kernel
theorem d17_133 : decode method_4_code 133 = .ok (.areturn, 1) := by decide +kernel
theorem d17_58 : decode method_4_code 58 = .ok (.new 12, 3) := by decide +kernel
theorem d17_61 : decode method_4_code 61 = .ok (.dup, 1) := by decide +kernel
theorem d17_62 : decode method_4_code 62 = .ok (.iconst 3, 1) := by decide +kernel
theorem d17_63 : decode method_4_code 63 = .ok (.newarray .char, 2) := by decide +kernel
theorem d17_65 : decode method_4_code 65 = .ok (.dup, 1) := by decide +kernel
theorem d17_66 : decode method_4_code 66 = .ok (.iconst 0, 1) := by decide +kernel
theorem d17_67 : decode method_4_code 67 = .ok (.aload_n 0, 1) := by decide +kernel
theorem d17_68 : decode method_4_code 68 = .ok (.bipush 9, 2) := by decide +kernel
theorem d17_70 : decode method_4_code 70 = .ok (.caload, 1) := by decide +kernel
theorem d17_71 : decode method_4_code 71 = .ok (.castore, 1) := by decide +kernel
theorem d17_72 : decode method_4_code 72 = .ok (.dup, 1) := by decide +kernel
theorem d17_73 : decode method_4_code 73 = .ok (.iconst 1, 1) := by decide +kernel
theorem d17_74 : decode method_4_code 74 = .ok (.aload_n 0, 1) := by decide +kernel
theorem d17_75 : decode method_4_code 75 = .ok (.bipush 10, 2) := by decide +kernel
theorem d17_77 : decode method_4_code 77 = .ok (.caload, 1) := by decide +kernel
theorem d17_78 : decode method_4_code 78 = .ok (.castore, 1) := by decide +kernel
theorem d17_79 : decode method_4_code 79 = .ok (.dup, 1) := by decide +kernel
theorem d17_80 : decode method_4_code 80 = .ok (.iconst 2, 1) := by decide +kernel
theorem d17_81 : decode method_4_code 81 = .ok (.aload_n 0, 1) := by decide +kernel
theorem d17_82 : decode method_4_code 82 = .ok (.bipush 11, 2) := by decide +kernel
theorem d17_84 : decode method_4_code 84 = .ok (.caload, 1) := by decide +kernel
theorem d17_85 : decode method_4_code 85 = .ok (.castore, 1) := by decide +kernel
theorem d17_86 : decode method_4_code 86 = .ok (.invokespecial 14, 3) := by decide +kernel
theorem d17_89 : decode method_4_code 89 = .ok (.areturn, 1) := by decide +kernel
theorem d17_28 : decode method_4_code 28 = .ok (.new 12, 3) := by decide +kernel
theorem d17_31 : decode method_4_code 31 = .ok (.dup, 1) := by decide +kernel
theorem d17_32 : decode method_4_code 32 = .ok (.iconst 2, 1) := by decide +kernel
theorem d17_33 : decode method_4_code 33 = .ok (.newarray .char, 2) := by decide +kernel
theorem d17_35 : decode method_4_code 35 = .ok (.dup, 1) := by decide +kernel
theorem d17_36 : decode method_4_code 36 = .ok (.iconst 0, 1) := by decide +kernel
theorem d17_37 : decode method_4_code 37 = .ok (.aload_n 0, 1) := by decide +kernel
theorem d17_38 : decode method_4_code 38 = .ok (.bipush 10, 2) := by decide +kernel
theorem d17_40 : decode method_4_code 40 = .ok (.caload, 1) := by decide +kernel
theorem d17_41 : decode method_4_code 41 = .ok (.castore, 1) := by decide +kernel
theorem d17_42 : decode method_4_code 42 = .ok (.dup, 1) := by decide +kernel
theorem d17_43 : decode method_4_code 43 = .ok (.iconst 1, 1) := by decide +kernel
theorem d17_44 : decode method_4_code 44 = .ok (.aload_n 0, 1) := by decide +kernel
theorem d17_45 : decode method_4_code 45 = .ok (.bipush 11, 2) := by decide +kernel
theorem d17_47 : decode method_4_code 47 = .ok (.caload, 1) := by decide +kernel
theorem d17_48 : decode method_4_code 48 = .ok (.castore, 1) := by decide +kernel
theorem d17_49 : decode method_4_code 49 = .ok (.invokespecial 14, 3) := by decide +kernel
theorem d17_52 : decode method_4_code 52 = .ok (.areturn, 1) := by decide +kernel
theorem d17_5 : decode method_4_code 5 = .ok (.new 12, 3) := by decide +kernel
theorem d17_8 : decode method_4_code 8 = .ok (.dup, 1) := by decide +kernel
theorem d17_9 : decode method_4_code 9 = .ok (.iconst 1, 1) := by decide +kernel
theorem d17_10 : decode method_4_code 10 = .ok (.newarray .char, 2) := by decide +kernel
theorem d17_12 : decode method_4_code 12 = .ok (.dup, 1) := by decide +kernel
theorem d17_13 : decode method_4_code 13 = .ok (.iconst 0, 1) := by decide +kernel
theorem d17_14 : decode method_4_code 14 = .ok (.aload_n 0, 1) := by decide +kernel
theorem d17_15 : decode method_4_code 15 = .ok (.bipush 11, 2) := by decide +kernel
theorem d17_17 : decode method_4_code 17 = .ok (.caload, 1) := by decide +kernel
theorem d17_18 : decode method_4_code 18 = .ok (.castore, 1) := by decide +kernel
theorem d17_19 : decode method_4_code 19 = .ok (.invokespecial 14, 3) := by decide +kernel
theorem d17_22 : decode method_4_code 22 = .ok (.areturn, 1) := by decide +kernel
theorem d18_0 : decode prog_12_method_1_code 0 = .ok (.aload_n 0, 1) := by decide +kernel
theorem d18_1 : decode prog_12_method_1_code 1 = .ok (.invokespecial 3, 3) := by decide +kernel
theorem pd__28__29_V : parseMethodDescriptor "()V" = some ⟨[], none⟩ := by decide +kernel
theorem d18_4 : decode prog_12_method_1_code 4 = .ok (.iload_n 1, 1) := by decide +kernel
theorem d18_5 : decode prog_12_method_1_code 5 = .ok (.iconst 1, 1) := by decide +kernel
theorem d18_6 : decode prog_12_method_1_code 6 = .ok (.if_icmp .ge 17, 3) := by decide +kernel
theorem d18_23 : decode prog_12_method_1_code 23 = .ok (.aload_n 0, 1) := by decide +kernel
theorem d18_24 : decode prog_12_method_1_code 24 = .ok (.iload_n 1, 1) := by decide +kernel
theorem d18_25 : decode prog_12_method_1_code 25 = .ok (.putfield 18, 3) := by decide +kernel
theorem d18_28 : decode prog_12_method_1_code 28 = .ok (.return_, 1) := by decide +kernel
theorem pn_com_example_quire_quire_catalogue_RecordNumber : plainName "com/example/quire/quire/catalogue/RecordNumber" = true := by first | (simp [plainName, overriddenIn]; done) | decide +kernel
theorem d19_0 : decode prog_12_method_6_code 0 = .ok (.aload_n 0, 1) := by decide +kernel
theorem d19_1 : decode prog_12_method_6_code 1 = .ok (.getfield 18, 3) := by decide +kernel
theorem d19_4 : decode prog_12_method_6_code 4 = .ok (.ireturn, 1) := by decide +kernel
theorem d20_0 : decode prog_19_method_2_code 0 = .ok (.aload_n 0, 1) := by decide +kernel
theorem d20_1 : decode prog_19_method_2_code 1 = .ok (.aload_n 1, 1) := by decide +kernel
theorem d20_2 : decode prog_19_method_2_code 2 = .ok (.iconst 1, 1) := by decide +kernel
theorem d20_3 : decode prog_19_method_2_code 3 = .ok (.ldc 11, 2) := by decide +kernel
theorem d20_5 : decode prog_19_method_2_code 5 = .ok (.invokestatic 12, 3) := by decide +kernel
theorem pd__28_Ljava_2f_lang_2f_String_3b_Ljava_2f_lang_2f_String_3b_II_29_I : parseMethodDescriptor "(Ljava/lang/String;Ljava/lang/String;II)I" = some ⟨[(.object "java/lang/String"), (.object "java/lang/String"), .int, .int], some .int⟩ := by decide +kernel
theorem d20_8 : decode prog_19_method_2_code 8 = .ok (.ireturn, 1) := by decide +kernel
theorem d21_0 : decode prog_12_method_2_code 0 = .ok (.new 19, 3) := by decide +kernel
theorem d21_3 : decode prog_12_method_2_code 3 = .ok (.dup, 1) := by decide +kernel
theorem d21_4 : decode prog_12_method_2_code 4 = .ok (.aload_n 0, 1) := by decide +kernel
theorem d21_5 : decode prog_12_method_2_code 5 = .ok (.ldc 24, 2) := by decide +kernel
theorem d21_7 : decode prog_12_method_2_code 7 = .ok (.invokestatic 26, 3) := by decide +kernel
theorem pd__28_Ljava_2f_lang_2f_String_3b_Ljava_2f_lang_2f_String_3b__29_I : parseMethodDescriptor "(Ljava/lang/String;Ljava/lang/String;)I" = some ⟨[(.object "java/lang/String"), (.object "java/lang/String")], some .int⟩ := by decide +kernel
theorem d21_10 : decode prog_12_method_2_code 10 = .ok (.invokespecial 30, 3) := by decide +kernel
theorem pd__28_I_29_V : parseMethodDescriptor "(I)V" = some ⟨[.int], none⟩ := by decide +kernel
theorem d21_13 : decode prog_12_method_2_code 13 = .ok (.areturn, 1) := by decide +kernel
theorem pd__28_II_29_C : parseMethodDescriptor "(II)C" = some ⟨[.int, .int], some .char⟩ := by decide +kernel
theorem pd__28_I_29_I : parseMethodDescriptor "(I)I" = some ⟨[.int], some .int⟩ := by decide +kernel
theorem pd__28__5b_CI_29_Ljava_2f_lang_2f_String_3b_ : parseMethodDescriptor "([CI)Ljava/lang/String;" = some ⟨[(.array .char), .int], some (.object "java/lang/String")⟩ := by decide +kernel
theorem pd__28_Ljava_2f_lang_2f_String_3b__29_Lcom_2f_example_2f_quire_2f_quire_2f_catalogue_2f_RecordNumber_3b_ : parseMethodDescriptor "(Ljava/lang/String;)Lcom/example/quire/quire/catalogue/RecordNumber;" = some ⟨[(.object "java/lang/String")], some (.object "com/example/quire/quire/catalogue/RecordNumber")⟩ := by decide +kernel
set_option maxRecDepth 65536 in
set_option maxHeartbeats 40000000 in
theorem c_cfal  (B : Base Z a0) {h : Heap} {d : Nat} {n : Int32} {vs : List Value} (Ad : Ary Z h d .byte vs) (hn : n.toInt = vs.length) : Con l Z a0 EL it n0 (⟨"java/lang/StringUTF16", "coderFromArrayLen", "([BI)B"⟩ : MethodName) 1 13 0 0 #[.ref d, .int n] h [] (fun v h' => v = some (.int 0) ∧ h = h') := by
  refine Met.con (bytes := jdk_52_method_15_code) (maxL := 2) (ret := (some .byte)) (rm := ({ frames := 0, cells := 0, slots := 0, locals := 0 } : Room)) (Met.of (own := "java/lang/StringUTF16") (nm := "coderFromArrayLen") #[.val (.ref d), .val (.int n)] (ew B) rfl rfl (plainFor_of_name pn_java_lang_StringUTF16) (fun m => by first | (simp [entryFrame, mkF, argsToLocals, Value.category]; done) | rfl) fun K C => ?_) (B.1 _ (List.mem_of_getElem? (i := 41) rfl)) (B.1 _ (List.mem_of_getElem? (i := 33) rfl)) rfl rfl rfl rfl
  refine C.iloadN d0_0 rfl ?_
  refine C.aloadN d0_1 rfl rfl ?_
  refine C.alen (n := n) Ad hn d0_2 ?_
  refine C.isub d0_3 ?_
  refine C.bipush (v := (31 : Int32)) d0_4 (by first | rfl | decide) ?_
  refine C.iushr d0_6 ?_
  refine C.i2b d0_7 ?_
  refine C.topI (show ((n - n).toUInt32 >>> ((31 : Int32) &&& 31).toUInt32).toInt32.toInt8.toInt32 = (0 : Int32) by rw [Int32.sub_self]; decide) ?_
  exact C.ireturn (t := .byte) rfl (by simp) rfl d0_8 (by decide) (by decide) ⟨rfl, rfl⟩
set_option maxRecDepth 65536 in
set_option maxHeartbeats 40000000 in
theorem c_cmp5  (B : Base Z a0) {h : Heap} {b d : Nat} {n : Int32} {cs : List Int32} (Ab : Ary Z h b .char (cs.map Value.int)) (Ad : Ary Z h d .byte (List.replicate cs.length (.int 0))) (nbd : b ≠ d) (hn : n.toInt = cs.length) (hp : ∀ c ∈ cs, 0 ≤ c.toInt ∧ c.toInt < 256) : Con l Z a0 EL it n0 (⟨"java/lang/StringUTF16", "compress", "([CI[BII)I"⟩ : MethodName) 1 18 0 0 #[.ref b, .int (0 : Int32), .ref d, .int (0 : Int32), .int n] h [d] (fun v h' => v = some (.int n) ∧ Ary Z h' d .byte (cs.map fun c => Value.int (lo8 c))) := by
  refine Met.con (bytes := jdk_52_method_21_code) (maxL := 7) (ret := (some .int)) (rm := ({ frames := 0, cells := 0, slots := 0, locals := 0 } : Room)) (Met.of (own := "java/lang/StringUTF16") (nm := "compress") #[.val (.ref b), .val (.int (0 : Int32)), .val (.ref d), .val (.int (0 : Int32)), .val (.int n), .unset, .unset] (ew B) rfl rfl (plainFor_of_name pn_java_lang_StringUTF16) (fun m => by first | (simp [entryFrame, mkF, argsToLocals, Value.category]; done) | rfl) fun K C => ?_) (B.1 _ (List.mem_of_getElem? (i := 38) rfl)) (B.1 _ (List.mem_of_getElem? (i := 33) rfl)) rfl rfl rfl rfl
  have hlen := Ab.len
  rw [List.length_map] at hlen
  have k255 : (255 : Int32).toInt = 255 := by decide
  refine C.iconst (v := (0 : Int32)) d1_0 (by first | rfl | decide) ?_
  refine C.istore #[.val (.ref b), .val (.int (0 : Int32)), .val (.ref d), .val (.int (0 : Int32)), .val (.int n), .val (.int (0 : Int32)), .unset] d1_1 rfl ?_
  suffices LOOP : ∀ (j k : Nat) (h1 : Heap) (s6 : Slot), j + k = cs.length → One s6 → Ary Z h1 b .char (cs.map Value.int) → Ary Z h1 d .byte ((cs.take k).map (fun c => Value.int (lo8 c)) ++ List.replicate j (.int 0)) → C.W h1 [d] 0 0 (mkF K.m 3 #[.val (.ref b), .val (.int (Int32.ofNat k)), .val (.ref d), .val (.int (Int32.ofNat k)), .val (.int n), .val (.int (Int32.ofNat k)), s6] []) from LOOP cs.length 0 h .unset (by omega) One.u Ab Ad
  intro j
  induction j with
  | zero =>
    intro k h1 s6 hjk h6 Ab Ad
    have ek : (Int32.ofNat k).toInt = k := ofNat_int (by omega)
    refine C.iload d1_3 rfl ?_
    refine C.iload d1_5 rfl ?_
    refine C.icmp_ge 44 d1_7 (by decide) (by decide) (fun q1 => ?_) (fun q1 => ?_)
    · refine C.iload d1_44 rfl ?_
      have ek2 : cs.take k = cs := List.take_of_length_le (by omega)
      rw [ek2] at Ad
      exact C.ireturn (t := .int) rfl (by simp) rfl d1_46 (by decide) (by decide) ⟨rfl, by simpa using Ad⟩
    · exfalso; omega
  | succ j ih =>
    intro k h1 s6 hjk h6 Ab Ad
    have ek : (Int32.ofNat k).toInt = k := ofNat_int (by omega)
    refine C.iload d1_3 rfl ?_
    refine C.iload d1_5 rfl ?_
    refine C.icmp_ge 44 d1_7 (by decide) (by decide) (fun q2 => ?_) (fun q2 => ?_)
    · exfalso; omega
    · obtain ⟨c, hc⟩ : ∃ c, cs[k]? = some c := ⟨_, List.getElem?_eq_getElem (by omega)⟩
      have hcb := hp c (List.mem_of_getElem? hc)
      refine C.aloadN d1_10 rfl rfl ?_
      refine C.iloadN d1_11 rfl ?_
      refine C.caload (x := c) k Ab ek (by simp [hc]) d1_12 ?_
      refine C.istore #[.val (.ref b), .val (.int (Int32.ofNat k)), .val (.ref d), .val (.int (Int32.ofNat k)), .val (.int n), .val (.int (Int32.ofNat k)), .val (.int c)] d1_13 (XS.store1 rfl h6 rfl) ?_
      refine C.iload d1_15 rfl ?_
      refine C.sipush (v := (255 : Int32)) d1_17 (by first | rfl | decide) ?_
      refine C.icmp_le 26 d1_20 (by decide) (by decide) (fun q3 => ?_) (fun q3 => ?_)
      · refine C.aloadN d1_26 rfl rfl ?_
        refine C.iloadN d1_27 rfl ?_
        refine C.iload d1_28 rfl ?_
        refine C.i2b d1_30 ?_
        refine C.bastore k Ad ek (by simp; omega) d1_31 (List.mem_of_getElem? (i := 0) rfl) fun h4 z4 K4 Aw4 => ?_
        show C.W h4 [d] 0 0 (mkF K.m 32 #[.val (.ref b), .val (.int (Int32.ofNat k)), .val (.ref d), .val (.int (Int32.ofNat k)), .val (.int n), .val (.int (Int32.ofNat k)), .val (.int c)] [])
        have A4' : Ary Z h4 d .byte ((cs.take (k + 1)).map (fun c => Value.int (lo8 c)) ++ List.replicate j (.int 0)) := by
          rw [lo8_lo8] at Aw4
          rwa [← fill_step (fun c => Value.int (lo8 c)) (.int 0) hc]
        refine C.iinc (z := (1 : Int32)) #[.val (.ref b), .val (.int ((Int32.ofNat k) + (1 : Int32))), .val (.ref d), .val (.int (Int32.ofNat k)), .val (.int n), .val (.int (Int32.ofNat k)), .val (.int c)] d1_32 rfl (by first | rfl | decide) rfl ?_
        refine C.iinc (z := (1 : Int32)) #[.val (.ref b), .val (.int ((Int32.ofNat k) + (1 : Int32))), .val (.ref d), .val (.int ((Int32.ofNat k) + (1 : Int32))), .val (.int n), .val (.int (Int32.ofNat k)), .val (.int c)] d1_35 rfl (by first | rfl | decide) rfl ?_
        refine C.iinc (z := (1 : Int32)) #[.val (.ref b), .val (.int ((Int32.ofNat k) + (1 : Int32))), .val (.ref d), .val (.int ((Int32.ofNat k) + (1 : Int32))), .val (.int n), .val (.int ((Int32.ofNat k) + (1 : Int32))), .val (.int c)] d1_38 rfl (by first | rfl | decide) rfl ?_
        refine C.goto 3 d1_41 (by decide) (by decide) ?_
        rw [ofNat_succ]
        exact ih (k + 1) h4 _ (by omega) (One.val rfl) (Ab.keep K4 (ninS nbd nin0)) A4'
      · exfalso; omega
set_option maxRecDepth 65536 in
set_option maxHeartbeats 40000000 in
theorem c_cmp3  (B : Base Z a0) {h : Heap} {b : Nat} {n : Int32} {cs : List Int32} (Ab : Ary Z h b .char (cs.map Value.int)) (hn : n.toInt = cs.length) (hc : cs.length ≤ 12) (hp : ∀ c ∈ cs, 0 ≤ c.toInt ∧ c.toInt < 256) : Con l Z a0 EL it n0 (⟨"java/lang/StringUTF16", "compress", "([CII)[B"⟩ : MethodName) 2 35 1 12 #[.ref b, .int (0 : Int32), .int n] h [] (fun v h' => ∃ d : Nat, v = some (.ref d) ∧ h.size ≤ d ∧ d < h'.size ∧ Ary Z h' d .byte (cs.map fun c => Value.int (lo8 c))) := by
  refine Met.con (bytes := jdk_52_method_16_code) (maxL := 6) (ret := (some (.array .byte))) (rm := ({ frames := 1, cells := 1, slots := 12, locals := 18 } : Room)) (Met.of (own := "java/lang/StringUTF16") (nm := "compress") #[.val (.ref b), .val (.int (0 : Int32)), .val (.int n), .unset, .unset, .unset] (ew B) rfl rfl (plainFor_of_name pn_java_lang_StringUTF16) (fun m => by first | (simp [entryFrame, mkF, argsToLocals, Value.category]; done) | rfl) fun K C => ?_) (B.1 _ (List.mem_of_getElem? (i := 34) rfl)) (B.1 _ (List.mem_of_getElem? (i := 33) rfl)) rfl rfl rfl rfl
  have lb := Ab.lt
  refine C.iloadN d2_0 rfl ?_
  refine C.newarr cs.length 12 (B.1 _ (List.mem_of_getElem? (i := 35) rfl)) d2_1 hn hc (by decide) (by decide) (by decide) fun h1 a2 g1 z1 o1 K1 An1 => ?_
  show C.W h1 [a2] 1 12 (mkF K.m 3 #[.val (.ref b), .val (.int (0 : Int32)), .val (.int n), .unset, .unset, .unset] [.ref a2])
  refine C.astoreN #[.val (.ref b), .val (.int (0 : Int32)), .val (.int n), .val (.ref a2), .unset, .unset] d2_3 rfl rfl ?_
  refine C.aloadN d2_4 rfl rfl ?_
  refine C.iloadN d2_5 rfl ?_
  refine C.aloadN d2_6 rfl rfl ?_
  refine C.iconst (v := (0 : Int32)) d2_7 (by first | rfl | decide) ?_
  refine C.iloadN d2_8 rfl ?_
  have Ab_3 := (Ab.keep K1 nin0)
  refine C.callS [.ref b, .int (0 : Int32), .ref a2, .int (0 : Int32), .int n] [] 0 (B.1 _ (List.mem_of_getElem? (i := 36) rfl)) (B.1 _ (List.mem_of_getElem? (i := 37) rfl)) (B.1 _ (List.mem_of_getElem? (i := 33) rfl)) (B.1 _ (List.mem_of_getElem? (i := 38) rfl)) (by decide) pd__28__5b_CI_5b_BII_29_I rfl id (c_cmp5 B Ab_3 An1 (neA (by omega)) hn hp) d2_9 rfl rfl rfl (by decide) (by decide) (by decide) (by decide) (allS (List.mem_of_getElem? (i := 0) rfl) all0) fun v4 h4 z4 K4 q4 => ?_
  obtain ⟨rfl, A4⟩ := q4
  show C.W h4 [a2] 1 12 (mkF K.m 12 #[.val (.ref b), .val (.int (0 : Int32)), .val (.int n), .val (.ref a2), .unset, .unset] [.int n])
  refine C.istore #[.val (.ref b), .val (.int (0 : Int32)), .val (.int n), .val (.ref a2), .val (.int n), .unset] d2_12 rfl ?_
  refine C.iload d2_14 rfl ?_
  refine C.iloadN d2_16 rfl ?_
  refine C.icmp_eq 57 d2_17 (by decide) (by decide) (fun q5 => ?_) (fun q5 => ?_)
  · refine C.aloadN d2_57 rfl rfl ?_
    exact C.areturn rfl rfl rfl d2_58 (by decide) (by decide) ⟨a2, rfl, by omega, by omega, A4⟩
  · exfalso; exact absurd rfl q5
set_option maxRecDepth 65536 in
set_option maxHeartbeats 40000000 in
theorem c_init4  (B : Base Z a0) {h : Heap} {x b : Nat} {n : Int32} {cs : List Int32} {v0 c0 : Value} (Ex : Exa Z h x "java/lang/String") (Fv : Fld Z h x "java/lang/String" "value" "[B" v0) (Fc : Fld Z h x "java/lang/String" "coder" "B" c0) (Ab : Ary Z h b .char (cs.map Value.int)) (hn : n.toInt = cs.length) (hc : cs.length ≤ 12) (hp : ∀ c ∈ cs, 0 ≤ c.toInt ∧ c.toInt < 256) (h0 : 0 < cs.length) : Con l Z a0 EL it n0 (⟨"java/lang/String", "<init>", "([CIILjava/lang/Void;)V"⟩ : MethodName) 3 52 1 12 #[.ref x, .ref b, .int (0 : Int32), .int n, .null] h [x] (fun v h' => v = none ∧ Str Z h' h'.size x cs) := by
  refine Met.con (bytes := jdk_42_method_149_code) (maxL := 6) (ret := none) (rm := ({ frames := 2, cells := 1, slots := 12, locals := 35 } : Room)) (Met.of (own := "java/lang/String") (nm := "<init>") #[.val (.ref x), .val (.ref b), .val (.int (0 : Int32)), .val (.int n), .val .null, .unset] (ew B) rfl rfl (plainFor_of_name pn_java_lang_String) (fun m => by first | (simp [entryFrame, mkF, argsToLocals, Value.category]; done) | rfl) fun K C => ?_) (B.1 _ (List.mem_of_getElem? (i := 26) rfl)) (B.1 _ (List.mem_of_getElem? (i := 19) rfl)) rfl rfl rfl rfl
  obtain ⟨zc, Sc, hzc⟩ := B.2.1
  have lx := exaLt Ex
  have lb := Ab.lt
  refine C.aloadN d3_0 rfl rfl ?_
  refine C.initO 0 (B.1 _ (List.mem_of_getElem? (i := 27) rfl)) (B.1 _ (List.mem_of_getElem? (i := 28) rfl)) (B.1 _ (List.mem_of_getElem? (i := 29) rfl)) d3_1 rfl rfl (by decide) (by decide) ?_
  show C.W h [x] 0 0 (mkF K.m 4 #[.val (.ref x), .val (.ref b), .val (.int (0 : Int32)), .val (.int n), .val .null, .unset] [])
  refine C.iloadN d3_4 rfl ?_
  refine C.ifc_ne 27 d3_5 (by decide) (by decide) (fun q1 => ?_) (fun q1 => ?_)
  · refine C.getS (B.1 _ (List.mem_of_getElem? (i := 30) rfl)) Via.refl Sc d3_27 ?_
    refine C.ifc_eq 58 d3_30 (by decide) (by decide) (fun q2 => ?_) (fun q2 => ?_)
    · exfalso; exact hzc (Int32.toInt_inj.mp q2)
    · refine C.aloadN d3_33 rfl rfl ?_
      refine C.iloadN d3_34 rfl ?_
      refine C.iloadN d3_35 rfl ?_
      refine C.callS [.ref b, .int (0 : Int32), .int n] [] 0 (B.1 _ (List.mem_of_getElem? (i := 31) rfl)) (B.1 _ (List.mem_of_getElem? (i := 32) rfl)) (B.1 _ (List.mem_of_getElem? (i := 33) rfl)) (B.1 _ (List.mem_of_getElem? (i := 34) rfl)) (by decide) pd__28__5b_CII_29__5b_B rfl id (c_cmp3 B Ab hn hc hp) d3_36 rfl rfl rfl (by decide) (by decide) (by decide) (by decide) all0 fun v3 h3 z3 K3 q3 => ?_
      obtain ⟨d3, rfl, ld3, lt3, A3⟩ := q3
      show C.W h3 [x] 1 12 (mkF K.m 39 #[.val (.ref x), .val (.ref b), .val (.int (0 : Int32)), .val (.int n), .val .null, .unset] [.ref d3])
      refine C.astore #[.val (.ref x), .val (.ref b), .val (.int (0 : Int32)), .val (.int n), .val .null, .val (.ref d3)] d3_39 rfl rfl ?_
      refine C.aloadN d3_41 rfl rfl ?_
      refine C.aload d3_42 rfl rfl ?_
      refine C.iloadN d3_44 rfl ?_
      refine C.callS [.ref d3, .int n] [.ref x] 1 (B.1 _ (List.mem_of_getElem? (i := 39) rfl)) (B.1 _ (List.mem_of_getElem? (i := 40) rfl)) (B.1 _ (List.mem_of_getElem? (i := 33) rfl)) (B.1 _ (List.mem_of_getElem? (i := 41) rfl)) (by decide) pd__28__5b_BI_29_B rfl id (c_cfal B A3 (by simpa using hn)) d3_45 rfl rfl rfl (by decide) (by decide) (by decide) (by decide) all0 fun v4 h4 z4 K4 q4 => ?_
      obtain ⟨rfl, rfl⟩ := q4
      show C.W h3 [x] 1 12 (mkF K.m 48 #[.val (.ref x), .val (.ref b), .val (.int (0 : Int32)), .val (.int n), .val .null, .val (.ref d3)] [.int (0 : Int32), .ref x])
      have Fc_5 := (Fc.keep K3 nin0)
      have Ex_6 := (Ex.keep K3)
      have Fv_7 := (Fv.keep K3 nin0)
      refine C.putF (host := "") (Or.inl (B.1 _ (List.mem_of_getElem? (i := 42) rfl))) Via.refl Fc_5 Ex_6 (Or.inr ⟨(B.1 _ (List.mem_of_getElem? (i := 43) rfl)), rfl, rfl⟩) (B.1 _ (List.mem_of_getElem? (i := 18) rfl)) (ty := .byte) (by decide) rfl rfl d3_48 (List.mem_of_getElem? (i := 0) rfl) fun h8 z8 K8 Ew8 Fw8 Gw8 => ?_
      have Fv_9 := Gw8 (slot_ne (Or.inr (B.1 _ (List.mem_of_getElem? (i := 45) rfl))) (Or.inr (B.1 _ (List.mem_of_getElem? (i := 43) rfl))) (by decide) (t := (.array .byte)) (t' := .byte) (by decide) (by decide)) Fv_7
      show C.W h8 [x] 1 12 (mkF K.m 51 #[.val (.ref x), .val (.ref b), .val (.int (0 : Int32)), .val (.int n), .val .null, .val (.ref d3)] [])
      refine C.aloadN d3_51 rfl rfl ?_
      refine C.aload d3_52 rfl rfl ?_
      refine C.putF (host := "") (Or.inl (B.1 _ (List.mem_of_getElem? (i := 44) rfl))) Via.refl Fv_9 Ew8 (Or.inr ⟨(B.1 _ (List.mem_of_getElem? (i := 45) rfl)), rfl, rfl⟩) (B.1 _ (List.mem_of_getElem? (i := 18) rfl)) (ty := (.array .byte)) (by decide) rfl rfl d3_54 (List.mem_of_getElem? (i := 0) rfl) fun h10 z10 K10 Ew10 Fw10 Gw10 => ?_
      have Fc_11 := Gw10 (slot_ne (Or.inr (B.1 _ (List.mem_of_getElem? (i := 43) rfl))) (Or.inr (B.1 _ (List.mem_of_getElem? (i := 45) rfl))) (by decide) (t := .byte) (t' := (.array .byte)) (by decide) (by decide)) Fw8
      show C.W h10 [x] 1 12 (mkF K.m 57 #[.val (.ref x), .val (.ref b), .val (.int (0 : Int32)), .val (.int n), .val .null, .val (.ref d3)] [])
      have A3_12 := ((A3.keep K8 (ninS (neA (by omega)) nin0)).keep K10 (ninS (neA (by omega)) nin0))
      exact C.return_ rfl d3_57 (by decide) (by decide) ⟨rfl, Ew10, by omega, Nat.le_refl _, d3, 0, _, by omega, Fw10, Fc_11, A3_12, Or.inl ⟨rfl, rfl, hp⟩⟩
  · exfalso; omega
set_option maxRecDepth 65536 in
set_option maxHeartbeats 40000000 in
theorem c_init1  (B : Base Z a0) {h : Heap} {x b : Nat} {cs : List Int32} {v0 c0 : Value} (Ex : Exa Z h x "java/lang/String") (Fv : Fld Z h x "java/lang/String" "value" "[B" v0) (Fc : Fld Z h x "java/lang/String" "coder" "B" c0) (Ab : Ary Z h b .char (cs.map Value.int)) (hc : cs.length ≤ 12) (hp : ∀ c ∈ cs, 0 ≤ c.toInt ∧ c.toInt < 256) (h0 : 0 < cs.length) : Con l Z a0 EL it n0 (⟨"java/lang/String", "<init>", "([C)V"⟩ : MethodName) 4 65 1 12 #[.ref x, .ref b] h [x] (fun v h' => v = none ∧ Str Z h' h'.size x cs) := by
  refine Met.con (bytes := jdk_42_method_3_code) (maxL := 2) (ret := none) (rm := ({ frames := 3, cells := 1, slots := 12, locals := 52 } : Room)) (Met.of (own := "java/lang/String") (nm := "<init>") #[.val (.ref x), .val (.ref b)] (ew B) rfl rfl (plainFor_of_name pn_java_lang_String) (fun m => by first | (simp [entryFrame, mkF, argsToLocals, Value.category]; done) | rfl) fun K C => ?_) (B.1 _ (List.mem_of_getElem? (i := 22) rfl)) (B.1 _ (List.mem_of_getElem? (i := 19) rfl)) rfl rfl rfl rfl
  have hn : (Int32.ofNat cs.length).toInt = cs.length := ofNat_int (by omega)
  refine C.aloadN d4_0 rfl rfl ?_
  refine C.aloadN d4_1 rfl rfl ?_
  refine C.iconst (v := (0 : Int32)) d4_2 (by first | rfl | decide) ?_
  refine C.aloadN d4_3 rfl rfl ?_
  refine C.alen (n := (Int32.ofNat cs.length)) Ab (by simpa using hn) d4_4 ?_
  refine C.aconstNull d4_5 ?_
  refine C.callN x [.ref b, .int (0 : Int32), .int (Int32.ofNat cs.length), .null] [] 0 (B.1 _ (List.mem_of_getElem? (i := 23) rfl)) (B.1 _ (List.mem_of_getElem? (i := 24) rfl)) (B.1 _ (List.mem_of_getElem? (i := 26) rfl)) rfl (by decide) pd__28__5b_CIILjava_2f_lang_2f_Void_3b__29_V rfl id (c_init4 B Ex Fv Fc Ab hn hc hp h0) d4_6 rfl rfl rfl (by decide) (by decide) (by decide) (by decide) (allS (List.mem_of_getElem? (i := 0) rfl) all0) fun v1 h1 z1 K1 q1 => ?_
  obtain ⟨rfl, S1⟩ := q1
  show C.W h1 [x] 1 12 (mkF K.m 9 #[.val (.ref x), .val (.ref b)] [])
  exact C.return_ rfl d4_9 (by decide) (by decide) ⟨rfl, S1⟩
set_option maxRecDepth 65536 in
set_option maxHeartbeats 40000000 in
theorem c_coder  (B : Base Z a0) {h : Heap} {x : Nat} {cd : Int32} (Fc : Fld Z h x "java/lang/String" "coder" "B" (.int cd)) (hcd : cd = 0 ∨ cd = 1) : Con l Z a0 EL it n0 (⟨"java/lang/String", "coder", "()B"⟩ : MethodName) 1 12 0 0 #[.ref x] h [] (fun v h' => v = some (.int cd) ∧ h = h') := by
  refine Met.con (bytes := jdk_42_method_152_code) (maxL := 1) (ret := (some .byte)) (rm := ({ frames := 0, cells := 0, slots := 0, locals := 0 } : Room)) (Met.of (own := "java/lang/String") (nm := "coder") #[.val (.ref x)] (ew B) rfl rfl (plainFor_of_name pn_java_lang_String) (fun m => by first | (simp [entryFrame, mkF, argsToLocals, Value.category]; done) | rfl) fun K C => ?_) (B.1 _ (List.mem_of_getElem? (i := 77) rfl)) (B.1 _ (List.mem_of_getElem? (i := 19) rfl)) rfl rfl rfl rfl
  obtain ⟨zc, Sc, hzc⟩ := B.2.1
  refine C.getS (B.1 _ (List.mem_of_getElem? (i := 30) rfl)) Via.refl Sc d5_0 ?_
  refine C.ifc_eq 13 d5_3 (by decide) (by decide) (fun q1 => ?_) (fun q1 => ?_)
  · exfalso; exact hzc (Int32.toInt_inj.mp q1)
  · refine C.aloadN d5_6 rfl rfl ?_
    refine C.getF (host := "") (Or.inl (B.1 _ (List.mem_of_getElem? (i := 42) rfl))) Via.refl Fc d5_7 ?_
    refine C.goto 14 d5_10 (by decide) (by decide) ?_
    exact C.ireturn (t := .byte) rfl (by simp) (by rcases hcd with rfl | rfl <;> rfl) d5_14 (by decide) (by decide) ⟨rfl, rfl⟩
set_option maxRecDepth 65536 in
set_option maxHeartbeats 40000000 in
theorem c_length  (B : Base Z a0) {h : Heap} {N : Nat} {x : Nat} {cs : List Int32} (S : Str Z h N x cs) : Con l Z a0 EL it n0 (⟨"java/lang/String", "length", "()I"⟩ : MethodName) 2 25 0 0 #[.ref x] h [] (fun v h' => v = some (.int (Int32.ofNat cs.length)) ∧ h = h') := by
  refine Met.con (bytes := jdk_42_method_54_code) (maxL := 1) (ret := (some .int)) (rm := ({ frames := 1, cells := 0, slots := 0, locals := 13 } : Room)) (Met.of (own := "java/lang/String") (nm := "length") #[.val (.ref x)] (ew B) rfl rfl (plainFor_of_name pn_java_lang_String) (fun m => by first | (simp [entryFrame, mkF, argsToLocals, Value.category]; done) | rfl) fun K C => ?_) (B.1 _ (List.mem_of_getElem? (i := 72) rfl)) (B.1 _ (List.mem_of_getElem? (i := 19) rfl)) rfl rfl rfl rfl
  obtain ⟨Ex, lx, lN, t, cd, vs, lt, Fv, Fc, At, cod⟩ := S
  have hl := At.len
  have hn : (Int32.ofNat vs.length).toInt = vs.length := ofNat_int hl
  refine C.aloadN d6_0 rfl rfl ?_
  refine C.getF (host := "") (Or.inl (B.1 _ (List.mem_of_getElem? (i := 44) rfl))) Via.refl Fv d6_1 ?_
  refine C.alen (n := (Int32.ofNat vs.length)) At hn d6_4 ?_
  refine C.aloadN d6_5 rfl rfl ?_
  refine C.callV x [] [.int (Int32.ofNat vs.length)] 1 (B.1 _ (List.mem_of_getElem? (i := 73) rfl)) (B.1 _ (List.mem_of_getElem? (i := 74) rfl)) (B.1 _ (List.mem_of_getElem? (i := 76) rfl)) (B.1 _ (List.mem_of_getElem? (i := 75) rfl)) (by decide) rfl Ex pd__28__29_B rfl id (c_coder B Fc cod.cd) d6_6 rfl rfl rfl (by decide) (by decide) (by decide) (by decide) all0 fun v1 h1 z1 K1 q1 => ?_
  obtain ⟨rfl, rfl⟩ := q1
  show C.W h [] 0 0 (mkF K.m 9 #[.val (.ref x)] [.int cd, .int (Int32.ofNat vs.length)])
  refine C.ishr d6_9 ?_
  refine C.topI (show ((Int32.ofNat vs.length) >>> (cd &&& 31)) = (Int32.ofNat cs.length) by exact cod.len hl) ?_
  exact C.ireturn (t := .int) rfl (by simp) rfl d6_10 (by decide) (by decide) ⟨rfl, rfl⟩
set_option maxRecDepth 65536 in
set_option maxHeartbeats 40000000 in
theorem c_isLat  (B : Base Z a0) {h : Heap} {x : Nat} {cd : Int32} (Fc : Fld Z h x "java/lang/String" "coder" "B" (.int cd)) : Con l Z a0 EL it n0 (⟨"java/lang/String", "isLatin1", "()Z"⟩ : MethodName) 1 12 0 0 #[.ref x] h [] (fun v h' => v = some (.int (if cd = 0 then 1 else 0)) ∧ h = h') := by
  refine Met.con (bytes := jdk_42_method_154_code) (maxL := 1) (ret := (some .boolean)) (rm := ({ frames := 0, cells := 0, slots := 0, locals := 0 } : Room)) (Met.of (own := "java/lang/String") (nm := "isLatin1") #[.val (.ref x)] (ew B) rfl rfl (plainFor_of_name pn_java_lang_String) (fun m => by first | (simp [entryFrame, mkF, argsToLocals, Value.category]; done) | rfl) fun K C => ?_) (B.1 _ (List.mem_of_getElem? (i := 87) rfl)) (B.1 _ (List.mem_of_getElem? (i := 19) rfl)) rfl rfl rfl rfl
  obtain ⟨zc, Sc, hzc⟩ := B.2.1
  refine C.getS (B.1 _ (List.mem_of_getElem? (i := 30) rfl)) Via.refl Sc d7_0 ?_
  refine C.ifc_eq 17 d7_3 (by decide) (by decide) (fun q1 => ?_) (fun q1 => ?_)
  · exfalso; exact hzc (Int32.toInt_inj.mp q1)
  · refine C.aloadN d7_6 rfl rfl ?_
    refine C.getF (host := "") (Or.inl (B.1 _ (List.mem_of_getElem? (i := 42) rfl))) Via.refl Fc d7_7 ?_
    refine C.ifc_ne 17 d7_10 (by decide) (by decide) (fun q2 => ?_) (fun q2 => ?_)
    · refine C.iconst (v := (0 : Int32)) d7_17 (by first | rfl | decide) ?_
      exact C.ireturn (t := .boolean) rfl (by simp) rfl d7_18 (by decide) (by decide) ⟨by rw [if_neg (fun e => q2 (by rw [e]; rfl))], rfl⟩
    · refine C.iconst (v := (1 : Int32)) d7_13 (by first | rfl | decide) ?_
      refine C.goto 18 d7_14 (by decide) (by decide) ?_
      exact C.ireturn (t := .boolean) rfl (by simp) rfl d7_18 (by decide) (by decide) ⟨by rw [if_pos (Int32.toInt_inj.mp q2)], rfl⟩
set_option maxRecDepth 65536 in
set_option maxHeartbeats 40000000 in
theorem c_isEmpty  (B : Base Z a0) {h : Heap} {N : Nat} {x : Nat} {cs : List Int32} (S : Str Z h N x cs) : Con l Z a0 EL it n0 (⟨"java/lang/String", "isEmpty", "()Z"⟩ : MethodName) 1 12 0 0 #[.ref x] h [] (fun v h' => v = some (.int (if cs = [] then 1 else 0)) ∧ h = h') := by
  refine Met.con (bytes := jdk_42_method_55_code) (maxL := 1) (ret := (some .boolean)) (rm := ({ frames := 0, cells := 0, slots := 0, locals := 0 } : Room)) (Met.of (own := "java/lang/String") (nm := "isEmpty") #[.val (.ref x)] (ew B) rfl rfl (plainFor_of_name pn_java_lang_String) (fun m => by first | (simp [entryFrame, mkF, argsToLocals, Value.category]; done) | rfl) fun K C => ?_) (B.1 _ (List.mem_of_getElem? (i := 67) rfl)) (B.1 _ (List.mem_of_getElem? (i := 19) rfl)) rfl rfl rfl rfl
  obtain ⟨Ex, lx, lN, t, cd, vs, lt, Fv, Fc, At, cod⟩ := S
  have hl := At.len
  have hn : (Int32.ofNat vs.length).toInt = vs.length := ofNat_int hl
  have hv := cod.nil
  refine C.aloadN d8_0 rfl rfl ?_
  refine C.getF (host := "") (Or.inl (B.1 _ (List.mem_of_getElem? (i := 44) rfl))) Via.refl Fv d8_1 ?_
  refine C.alen (n := (Int32.ofNat vs.length)) At hn d8_4 ?_
  refine C.ifc_ne 12 d8_5 (by decide) (by decide) (fun q1 => ?_) (fun q1 => ?_)
  · refine C.iconst (v := (0 : Int32)) d8_12 (by first | rfl | decide) ?_
    have hne : ¬ cs = [] := fun e => by have := hv.mp e; omega
    exact C.ireturn (t := .boolean) rfl (by simp) rfl d8_13 (by decide) (by decide) ⟨by rw [if_neg hne], rfl⟩
  · refine C.iconst (v := (1 : Int32)) d8_8 (by first | rfl | decide) ?_
    refine C.goto 13 d8_9 (by decide) (by decide) ?_
    have heq : cs = [] := hv.mpr (by omega)
    exact C.ireturn (t := .boolean) rfl (by simp) rfl d8_13 (by decide) (by decide) ⟨by rw [if_pos heq], rfl⟩
set_option maxRecDepth 65536 in
set_option maxHeartbeats 40000000 in
theorem c_pciN  (B : Base Z a0) {h : Heap} {i n : Int32} (h0 : 0 ≤ i.toInt) (h1 : i.toInt < n.toInt) : Con l Z a0 EL it n0 (⟨"jdk/internal/util/Preconditions", "checkIndex", "(IILjava/util/function/BiFunction;)I"⟩ : MethodName) 1 14 0 0 #[.int i, .int n, .null] h [] (fun v h' => v = some (.int i) ∧ h = h') := by
  refine Met.con (bytes := jdk_41_method_11_code) (maxL := 3) (ret := (some .int)) (rm := ({ frames := 0, cells := 0, slots := 0, locals := 0 } : Room)) (Met.of (own := "jdk/internal/util/Preconditions") (nm := "checkIndex") #[.val (.int i), .val (.int n), .val .null] (ew B) rfl rfl (plainFor_of_name pn_jdk_internal_util_Preconditions) (fun m => by first | (simp [entryFrame, mkF, argsToLocals, Value.category]; done) | rfl) fun K C => ?_) (B.1 _ (List.mem_of_getElem? (i := 99) rfl)) (B.1 _ (List.mem_of_getElem? (i := 96) rfl)) rfl rfl rfl rfl
  refine C.iloadN d9_0 rfl ?_
  refine C.ifc_lt 9 d9_1 (by decide) (by decide) (fun q1 => ?_) (fun q1 => ?_)
  · exfalso; omega
  · refine C.iloadN d9_4 rfl ?_
    refine C.iloadN d9_5 rfl ?_
    refine C.icmp_lt 16 d9_6 (by decide) (by decide) (fun q2 => ?_) (fun q2 => ?_)
    · refine C.iloadN d9_16 rfl ?_
      exact C.ireturn (t := .int) rfl (by simp) rfl d9_17 (by decide) (by decide) ⟨rfl, rfl⟩
    · exfalso; omega
set_option maxRecDepth 65536 in
set_option maxHeartbeats 40000000 in
theorem c_pciA  (B : Base Z a0) {h : Heap} {i n : Int32} {g : Nat} (h0 : 0 ≤ i.toInt) (h1 : i.toInt < n.toInt) : Con l Z a0 EL it n0 (⟨"jdk/internal/util/Preconditions", "checkIndex", "(IILjava/util/function/BiFunction;)I"⟩ : MethodName) 1 14 0 0 #[.int i, .int n, .ref g] h [] (fun v h' => v = some (.int i) ∧ h = h') := by
  refine Met.con (bytes := jdk_41_method_11_code) (maxL := 3) (ret := (some .int)) (rm := ({ frames := 0, cells := 0, slots := 0, locals := 0 } : Room)) (Met.of (own := "jdk/internal/util/Preconditions") (nm := "checkIndex") #[.val (.int i), .val (.int n), .val (.ref g)] (ew B) rfl rfl (plainFor_of_name pn_jdk_internal_util_Preconditions) (fun m => by first | (simp [entryFrame, mkF, argsToLocals, Value.category]; done) | rfl) fun K C => ?_) (B.1 _ (List.mem_of_getElem? (i := 99) rfl)) (B.1 _ (List.mem_of_getElem? (i := 96) rfl)) rfl rfl rfl rfl
  refine C.iloadN d9_0 rfl ?_
  refine C.ifc_lt 9 d9_1 (by decide) (by decide) (fun q1 => ?_) (fun q1 => ?_)
  · exfalso; omega
  · refine C.iloadN d9_4 rfl ?_
    refine C.iloadN d9_5 rfl ?_
    refine C.icmp_lt 16 d9_6 (by decide) (by decide) (fun q2 => ?_) (fun q2 => ?_)
    · refine C.iloadN d9_16 rfl ?_
      exact C.ireturn (t := .int) rfl (by simp) rfl d9_17 (by decide) (by decide) ⟨rfl, rfl⟩
    · exfalso; omega
set_option maxRecDepth 65536 in
set_option maxHeartbeats 40000000 in
theorem c_sci  (B : Base Z a0) {h : Heap} {i n : Int32} (h0 : 0 ≤ i.toInt) (h1 : i.toInt < n.toInt) : Con l Z a0 EL it n0 (⟨"java/lang/String", "checkIndex", "(II)V"⟩ : MethodName) 2 27 0 0 #[.int i, .int n] h [] (fun v h' => v = none ∧ h = h') := by
  refine Met.con (bytes := jdk_42_method_155_code) (maxL := 2) (ret := none) (rm := ({ frames := 1, cells := 0, slots := 0, locals := 14 } : Room)) (Met.of (own := "java/lang/String") (nm := "checkIndex") #[.val (.int i), .val (.int n)] (ew B) rfl rfl (plainFor_of_name pn_java_lang_String) (fun m => by first | (simp [entryFrame, mkF, argsToLocals, Value.category]; done) | rfl) fun K C => ?_) (B.1 _ (List.mem_of_getElem? (i := 94) rfl)) (B.1 _ (List.mem_of_getElem? (i := 19) rfl)) rfl rfl rfl rfl
  obtain ⟨fm, Sf, hf⟩ := B.2.2
  rcases ref_cases hf with rfl | ⟨f, rfl⟩
  · skip
    refine C.iloadN d10_0 rfl ?_
    refine C.iloadN d10_1 rfl ?_
    refine C.getS (B.1 _ (List.mem_of_getElem? (i := 95) rfl)) Via.refl Sf d10_2 ?_
    refine C.callS [.int i, .int n, .null] [] 0 (B.1 _ (List.mem_of_getElem? (i := 97) rfl)) (B.1 _ (List.mem_of_getElem? (i := 98) rfl)) (B.1 _ (List.mem_of_getElem? (i := 96) rfl)) (B.1 _ (List.mem_of_getElem? (i := 99) rfl)) (by decide) pd__28_IILjava_2f_util_2f_function_2f_BiFunction_3b__29_I rfl id (c_pciN B h0 h1) d10_5 rfl rfl rfl (by decide) (by decide) (by decide) (by decide) all0 fun v1 h1 z1 K1 q1 => ?_
    obtain ⟨rfl, rfl⟩ := q1
    show C.W h [] 0 0 (mkF K.m 8 #[.val (.int i), .val (.int n)] [.int i])
    refine C.pop rfl d10_8 ?_
    exact C.return_ rfl d10_9 (by decide) (by decide) ⟨rfl, rfl⟩
  · skip
    refine C.iloadN d10_0 rfl ?_
    refine C.iloadN d10_1 rfl ?_
    refine C.getS (B.1 _ (List.mem_of_getElem? (i := 95) rfl)) Via.refl Sf d10_2 ?_
    refine C.callS [.int i, .int n, .ref f] [] 0 (B.1 _ (List.mem_of_getElem? (i := 97) rfl)) (B.1 _ (List.mem_of_getElem? (i := 98) rfl)) (B.1 _ (List.mem_of_getElem? (i := 96) rfl)) (B.1 _ (List.mem_of_getElem? (i := 99) rfl)) (by decide) pd__28_IILjava_2f_util_2f_function_2f_BiFunction_3b__29_I rfl id (c_pciA B h0 h1) d10_5 rfl rfl rfl (by decide) (by decide) (by decide) (by decide) all0 fun v2 h2 z2 K2 q2 => ?_
    obtain ⟨rfl, rfl⟩ := q2
    show C.W h [] 0 0 (mkF K.m 8 #[.val (.int i), .val (.int n)] [.int i])
    refine C.pop rfl d10_8 ?_
    exact C.return_ rfl d10_9 (by decide) (by decide) ⟨rfl, rfl⟩
set_option maxRecDepth 65536 in
set_option maxHeartbeats 40000000 in
theorem c_l1cha  (B : Base Z a0) {h : Heap} {d k : Nat} {i c : Int32} {cs : List Int32} (Ad : Ary Z h d .byte (cs.map fun c => Value.int (lo8 c))) (hi : i.toInt = k) (hc : cs[k]? = some c) (hb : 0 ≤ c.toInt ∧ c.toInt < 256) : Con l Z a0 EL it n0 (⟨"java/lang/StringLatin1", "charAt", "([BI)C"⟩ : MethodName) 3 40 0 0 #[.ref d, .int i] h [] (fun v h' => v = some (.int c) ∧ h = h') := by
  refine Met.con (bytes := jdk_43_method_2_code) (maxL := 2) (ret := (some .char)) (rm := ({ frames := 2, cells := 0, slots := 0, locals := 27 } : Room)) (Met.of (own := "java/lang/StringLatin1") (nm := "charAt") #[.val (.ref d), .val (.int i)] (ew B) rfl rfl (plainFor_of_name pn_java_lang_StringLatin1) (fun m => by first | (simp [entryFrame, mkF, argsToLocals, Value.category]; done) | rfl) fun K C => ?_) (B.1 _ (List.mem_of_getElem? (i := 91) rfl)) (B.1 _ (List.mem_of_getElem? (i := 90) rfl)) rfl rfl rfl rfl
  have lA := Ad.len
  rw [List.length_map] at lA
  have hk : k < cs.length := (List.getElem?_eq_some_iff.mp hc).1
  have em : (Int32.ofNat cs.length).toInt = cs.length := ofNat_int lA
  refine C.iloadN d11_0 rfl ?_
  refine C.aloadN d11_1 rfl rfl ?_
  refine C.alen (n := (Int32.ofNat cs.length)) Ad (by rw [List.length_map]; exact em) d11_2 ?_
  refine C.callS [.int i, .int (Int32.ofNat cs.length)] [] 0 (B.1 _ (List.mem_of_getElem? (i := 92) rfl)) (B.1 _ (List.mem_of_getElem? (i := 93) rfl)) (B.1 _ (List.mem_of_getElem? (i := 19) rfl)) (B.1 _ (List.mem_of_getElem? (i := 94) rfl)) (by decide) pd__28_II_29_V rfl id (c_sci B (by omega) (by omega)) d11_3 rfl rfl rfl (by decide) (by decide) (by decide) (by decide) all0 fun v1 h1 z1 K1 q1 => ?_
  obtain ⟨rfl, rfl⟩ := q1
  show C.W h [] 0 0 (mkF K.m 6 #[.val (.ref d), .val (.int i)] [])
  refine C.aloadN d11_6 rfl rfl ?_
  refine C.iloadN d11_7 rfl ?_
  refine C.baload (x := (lo8 c)) k Ad hi (by simp [hc]) d11_8 ?_
  refine C.sipush (v := (255 : Int32)) d11_9 (by first | rfl | decide) ?_
  refine C.iand d11_12 ?_
  refine C.i2c d11_13 ?_
  refine C.topI (show ((lo8 c) &&& (255 : Int32)).toUInt32.toUInt16.toUInt32.toInt32 = c by have q := lo8_and c; have e : (lo8 c &&& 255) = c := Int32.toInt_inj.mp (by omega); rw [e]; exact i2c_id (by omega) (by omega)) ?_
  exact C.ireturn (t := .char) rfl (by simp) (nchar (by omega) (by omega)) d11_14 (by decide) (by decide) ⟨rfl, rfl⟩
set_option maxRecDepth 65536 in
set_option maxHeartbeats 40000000 in
theorem c_charAt  (B : Base Z a0) {h : Heap} {N k : Nat} {x : Nat} {i c : Int32} {cs : List Int32} (S : Str Z h N x cs) (hi : i.toInt = k) (hc : cs[k]? = some c) (hl : Lat cs) : Con l Z a0 EL it n0 (⟨"java/lang/String", "charAt", "(I)C"⟩ : MethodName) 4 53 0 0 #[.ref x, .int i] h [] (fun v h' => v = some (.int c) ∧ h = h') := by
  refine Met.con (bytes := jdk_42_method_56_code) (maxL := 2) (ret := (some .char)) (rm := ({ frames := 3, cells := 0, slots := 0, locals := 40 } : Room)) (Met.of (own := "java/lang/String") (nm := "charAt") #[.val (.ref x), .val (.int i)] (ew B) rfl rfl (plainFor_of_name pn_java_lang_String) (fun m => by first | (simp [entryFrame, mkF, argsToLocals, Value.category]; done) | rfl) fun K C => ?_) (B.1 _ (List.mem_of_getElem? (i := 82) rfl)) (B.1 _ (List.mem_of_getElem? (i := 19) rfl)) rfl rfl rfl rfl
  obtain ⟨Ex, lx1, lx2, tx, cx, vx, ltx, Vx, Cx, Ax, codx⟩ := S
  refine C.aloadN d12_0 rfl rfl ?_
  refine C.callV x [] [] 0 (B.1 _ (List.mem_of_getElem? (i := 83) rfl)) (B.1 _ (List.mem_of_getElem? (i := 84) rfl)) (B.1 _ (List.mem_of_getElem? (i := 86) rfl)) (B.1 _ (List.mem_of_getElem? (i := 85) rfl)) (by decide) rfl Ex pd__28__29_Z rfl id (c_isLat B Cx) d12_1 rfl rfl rfl (by decide) (by decide) (by decide) (by decide) all0 fun v1 h1 z1 K1 q1 => ?_
  obtain ⟨rfl, rfl⟩ := q1
  show C.W h [] 0 0 (mkF K.m 4 #[.val (.ref x), .val (.int i)] [.int (if cx = 0 then (1 : Int32) else 0)])
  refine C.ifc_eq 16 d12_4 (by decide) (by decide) (fun q2 => ?_) (fun q2 => ?_)
  · exfalso
    rw [if_pos (codx.lat hl).1] at q2
    revert q2; decide
  · have hcx : cx = 0 := Classical.byContradiction fun e => by rw [if_neg e] at q2; exact q2 rfl
    obtain ⟨rfl, hpx⟩ := codx.lo hcx
    have hb := hpx c (List.mem_of_getElem? hc)
    refine C.aloadN d12_7 rfl rfl ?_
    refine C.getF (host := "") (Or.inl (B.1 _ (List.mem_of_getElem? (i := 44) rfl))) Via.refl Vx d12_8 ?_
    refine C.iloadN d12_11 rfl ?_
    refine C.callS [.ref tx, .int i] [] 0 (B.1 _ (List.mem_of_getElem? (i := 88) rfl)) (B.1 _ (List.mem_of_getElem? (i := 89) rfl)) (B.1 _ (List.mem_of_getElem? (i := 90) rfl)) (B.1 _ (List.mem_of_getElem? (i := 91) rfl)) (by decide) pd__28__5b_BI_29_C rfl id (c_l1cha B Ax hi hc hb) d12_12 rfl rfl rfl (by decide) (by decide) (by decide) (by decide) all0 fun v3 h3 z3 K3 q3 => ?_
    obtain ⟨rfl, rfl⟩ := q3
    show C.W h [] 0 0 (mkF K.m 15 #[.val (.ref x), .val (.int i)] [.int c])
    exact C.ireturn (t := .char) rfl (by simp) (nchar (by omega) (by omega)) d12_15 (by decide) (by decide) ⟨rfl, rfl⟩
def dv (a : Int) : List Int32 → Int
  | [] => a
  | c :: cs => dv (10 * a + (c.toInt - 48)) cs
theorem dv_app (a : Int) (xs ys : List Int32) : dv a (xs ++ ys) = dv (dv a xs) ys := by
  induction xs generalizing a with
  | nil => rfl
  | cons c xs ih => exact ih _
theorem dv_le {a : Int} {cs : List Int32} (ha : 0 ≤ a) (hd : ∀ c ∈ cs, 48 ≤ c.toInt ∧ c.toInt ≤ 57) : a ≤ dv a cs := by
  induction cs generalizing a with
  | nil => exact Int.le_refl _
  | cons c cs ih =>
    have h1 := hd c (List.mem_cons_self ..)
    have h2 := ih (a := 10 * a + (c.toInt - 48)) (by omega) fun z hz => hd z (List.mem_cons_of_mem _ hz)
    show a ≤ dv (10 * a + (c.toInt - 48)) cs
    omega
theorem dv_pre {cs : List Int32} {k : Nat} (hd : ∀ c ∈ cs, 48 ≤ c.toInt ∧ c.toInt ≤ 57) : 0 ≤ dv 0 (cs.take k) ∧ dv 0 (cs.take k) ≤ dv 0 cs := by
  have e : dv 0 cs = dv (dv 0 (cs.take k)) (cs.drop k) := by rw [← dv_app, List.take_append_drop]
  have h0 : 0 ≤ dv 0 (cs.take k) := dv_le (Int.le_refl 0) fun c hc => hd c (List.mem_of_mem_take hc)
  exact ⟨h0, by rw [e]; exact dv_le h0 fun c hc => hd c (List.mem_of_mem_drop hc)⟩
theorem dv_step {cs : List Int32} {k : Nat} {c : Int32} (hc : cs[k]? = some c) : dv 0 (cs.take (k + 1)) = 10 * dv 0 (cs.take k) + (c.toInt - 48) := by
  rw [List.take_add_one, hc, dv_app]; rfl
theorem bm64s {x : Int} {y : Int} (h : (x - y) % 18446744073709551616 = 0) (h1 : -9223372036854775808 ≤ x) (h2 : x < 9223372036854775808) (h3 : -9223372036854775808 ≤ y) (h4 : y < 9223372036854775808) : x = y := by omega
theorem ladd_int {x y : Int64} (h1 : -9223372036854775808 ≤ x.toInt + y.toInt) (h2 : x.toInt + y.toInt < 9223372036854775808) : (x + y).toInt = x.toInt + y.toInt := bm64s (c_ladd x y) (Int64.le_toInt _) (Int64.toInt_lt _) h1 h2
theorem lsub_int {x y : Int64} (h1 : -9223372036854775808 ≤ x.toInt - y.toInt) (h2 : x.toInt - y.toInt < 9223372036854775808) : (x - y).toInt = x.toInt - y.toInt := bm64s (c_lsub x y) (Int64.le_toInt _) (Int64.toInt_lt _) h1 h2
theorem lmul_int {x y : Int64} (h1 : -9223372036854775808 ≤ x.toInt * y.toInt) (h2 : x.toInt * y.toInt < 9223372036854775808) : (x * y).toInt = x.toInt * y.toInt := bm64s (c_lmul x y) (Int64.le_toInt _) (Int64.toInt_lt _) h1 h2
theorem l2i_int {x : Int64} (h1 : -2147483648 ≤ x.toInt) (h2 : x.toInt < 2147483648) : x.toInt32.toInt = x.toInt := by
  have q := c_l2i x
  have q1 := Int32.le_toInt x.toInt32
  have q2 := Int32.toInt_lt x.toInt32
  omega
theorem lrem_int {x y : Int64} (h : 0 ≤ x.toInt) : (x % y).toInt = x.toInt % y.toInt := by
  rw [Int64.toInt_mod]
  exact Int.tmod_eq_emod_of_nonneg h
theorem ldiv_int {x y : Int64} (h : 0 ≤ x.toInt) (hy : 0 < y.toInt) : (x / y).toInt = x.toInt / y.toInt := (c_ldiv x y y.toInt rfl (fun e => by rw [e] at hy; revert hy; decide)).1 h
theorem step10 {t ten : Int64} {c k48 : Int32} (ht0 : 0 ≤ t.toInt) (ht1 : t.toInt < 2147483648) (h10 : ten.toInt = 10) (hc : 48 ≤ c.toInt ∧ c.toInt ≤ 57) (h48 : k48.toInt = 48) : (t * ten + (c - k48).toInt64).toInt = 10 * t.toInt + (c.toInt - 48) := by
  have e1 : (t * ten).toInt = t.toInt * 10 := by rw [lmul_int (by rw [h10]; omega) (by rw [h10]; omega), h10]
  have e2 : (c - k48).toInt64.toInt = c.toInt - 48 := by rw [c_i2l, sub_int (by omega) (by omega), h48]
  rw [ladd_int (by omega) (by omega), e1, e2]
  omega
theorem digit_step (V m : Int) (hm : 0 < m) : V / m = 10 * (V / (m * 10)) + V / m % 10 := by
  rw [← Int.ediv_ediv_of_nonneg (Int.le_of_lt hm)]
  omega
def Dg (V P : Int) (c : Int32) : Prop := c.toInt = 48 + V / P % 10
theorem Dg.lit {V P R : Int} {c : Int32} (D : Dg V P c) (h : P = R) : c.toInt = 48 + V / R % 10 := by rw [← h]; exact D
theorem land31 (x : Int64) : 0 ≤ (x &&& 2147483647).toInt ∧ (x &&& 2147483647).toInt < 2147483648 := by
  have e : ((2 ^ 31 : Nat) : Int) = 2147483648 := by decide
  rw [c_maskL x 2147483647 31 (by decide) (by decide), e]
  omega
theorem emod3 {a b : Int} (ha : 0 ≤ a) (hb : 0 < b) : 0 ≤ a % b ∧ a % b < b ∧ a % b ≤ a := by
  refine ⟨Int.emod_nonneg a (by omega), Int.emod_lt_of_pos a hb, ?_⟩
  have h := Int.mul_ediv_add_emod a b
  have q := Int.mul_nonneg (Int.le_of_lt hb) (Int.ediv_nonneg ha (Int.le_of_lt hb))
  omega
theorem dg_chr {x : Int32} {V P : Int} (k : x.toInt = 48 + V / P % 10) : (48 ≤ x.toUInt32.toUInt16.toUInt32.toInt32.toInt ∧ x.toUInt32.toUInt16.toUInt32.toInt32.toInt ≤ 57) ∧ Dg V P x.toUInt32.toUInt16.toUInt32.toInt32 := by
  have b : 0 ≤ V / P % 10 ∧ V / P % 10 < 10 := ⟨Int.emod_nonneg _ (by decide), Int.emod_lt_of_pos _ (by decide)⟩
  rw [i2c_id (by omega) (by omega)]
  exact ⟨by omega, k⟩
theorem dg_l {u p : Int64} (h0 : 0 ≤ u.toInt) (hp : 0 < p.toInt) : ((48 : Int32) + (u / p % (10 : Int64)).toInt32).toInt = 48 + u.toInt / p.toInt % 10 := by
  have e1 := ldiv_int (x := u) (y := p) h0 hp
  have n1 : 0 ≤ (u / p).toInt := by rw [e1]; exact Int.ediv_nonneg h0 (Int.le_of_lt hp)
  have e2 : (u / p % (10 : Int64)).toInt = u.toInt / p.toInt % 10 := by rw [lrem_int n1, e1]; rfl
  have b : 0 ≤ u.toInt / p.toInt % 10 ∧ u.toInt / p.toInt % 10 < 10 := ⟨Int.emod_nonneg _ (by decide), Int.emod_lt_of_pos _ (by decide)⟩
  have k48 : (48 : Int32).toInt = 48 := by decide
  have e3 : (u / p % (10 : Int64)).toInt32.toInt = u.toInt / p.toInt % 10 := by rw [l2i_int (by omega) (by omega), e2]
  rw [add_int (by omega) (by omega), e3, k48]
theorem dg_i {u p : Int32} (h0 : 0 ≤ u.toInt) (hp : 0 < p.toInt) : ((48 : Int32) + (u / p % (10 : Int32))).toInt = 48 + u.toInt / p.toInt % 10 := by
  have e1 : (u / p).toInt = u.toInt / p.toInt := (c_idiv u p p.toInt rfl (fun e => by rw [e] at hp; revert hp; decide)).1 h0
  have n1 : 0 ≤ (u / p).toInt := by rw [e1]; exact Int.ediv_nonneg h0 (Int.le_of_lt hp)
  have e2 : (u / p % (10 : Int32)).toInt = u.toInt / p.toInt % 10 := by rw [(c_irem (u / p) 10 10 (by decide)).1 n1, e1]
  have b : 0 ≤ u.toInt / p.toInt % 10 ∧ u.toInt / p.toInt % 10 < 10 := ⟨Int.emod_nonneg _ (by decide), Int.emod_lt_of_pos _ (by decide)⟩
  have k48 : (48 : Int32).toInt = 48 := by decide
  rw [add_int (by omega) (by omega), e2, k48]
theorem min_ok {w x : Int64} (h0 : 0 ≤ w.toInt) (h1 : w.toInt < 2147483648) : 0 ≤ (w - (x &&& (2147483647 : Int64)) % (w + (1 : Int64))).toInt ∧ (w - (x &&& (2147483647 : Int64)) % (w + (1 : Int64))).toInt ≤ w.toInt := by
  have k1 : (1 : Int64).toInt = 1 := by decide
  have e1 : (w + (1 : Int64)).toInt = w.toInt + 1 := by rw [ladd_int (by omega) (by omega), k1]
  have l := land31 x
  have e2 := lrem_int (x := x &&& (2147483647 : Int64)) (y := w + (1 : Int64)) l.1
  have q := emod3 (a := (x &&& (2147483647 : Int64)).toInt) (b := (w + (1 : Int64)).toInt) l.1 (by omega)
  rw [← e2] at q
  have e3 := lsub_int (x := w) (y := (x &&& (2147483647 : Int64)) % (w + (1 : Int64))) (by omega) (by omega)
  omega
theorem max_ok {w x : Int64} (h0 : 0 ≤ w.toInt) (h1 : w.toInt < 2147483648) : w.toInt ≤ (w + (x &&& (2147483647 : Int64)) % ((2147483648 : Int64) - w)).toInt ∧ (w + (x &&& (2147483647 : Int64)) % ((2147483648 : Int64) - w)).toInt < 2147483648 := by
  have k1 : (2147483648 : Int64).toInt = 2147483648 := by decide
  have e1 : ((2147483648 : Int64) - w).toInt = 2147483648 - w.toInt := by rw [lsub_int (by omega) (by omega), k1]
  have l := land31 x
  have e2 := lrem_int (x := x &&& (2147483647 : Int64)) (y := (2147483648 : Int64) - w) l.1
  have q := emod3 (a := (x &&& (2147483647 : Int64)).toInt) (b := ((2147483648 : Int64) - w).toInt) l.1 (by omega)
  rw [← e2] at q
  have e3 := ladd_int (x := w) (y := (x &&& (2147483647 : Int64)) % ((2147483648 : Int64) - w)) (by omega) (by omega)
  omega
theorem nz64 {x : Int64} (h : 0 < x.toInt) : x ≠ 0 := fun e => by rw [e] at h; exact absurd h (by decide)
set_option maxRecDepth 65536 in
set_option maxHeartbeats 40000000 in
theorem c_parse  (B : Base Z a0) {h : Heap} {N x y : Nat} {mn mx : Int32} {cs : List Int32} (S : Str Z h N x cs) (hl : 0 < cs.length ∧ cs.length ≤ 12) (hd : ∀ c ∈ cs, 48 ≤ c.toInt ∧ c.toInt ≤ 57) (h1 : mn.toInt ≤ dv 0 cs) (h2 : dv 0 cs ≤ mx.toInt) : Con l Z a0 EL it n0 (⟨"com/example/quire/quire/catalogue/WholeNumber", "parse", "(Ljava/lang/String;Ljava/lang/String;II)I"⟩ : MethodName) 5 72 0 0 #[.ref x, .ref y, .int mn, .int mx] h [] (fun v h' => ∃ r : Int32, v = some (.int r) ∧ r.toInt = dv 0 cs ∧ h = h') := by
  refine Met.con (bytes := prog_19_method_3_code) (maxL := 8) (ret := (some .int)) (rm := ({ frames := 4, cells := 0, slots := 0, locals := 53 } : Room)) (Met.of (own := "com/example/quire/quire/catalogue/WholeNumber") (nm := "parse") #[.val (.ref x), .val (.ref y), .val (.int mn), .val (.int mx), .unset, .unset, .unset, .unset] (ew B) rfl rfl (plainFor_of_name pn_com_example_quire_quire_catalogue_WholeNumber) (fun m => by first | (simp [entryFrame, mkF, argsToLocals, Value.category]; done) | rfl) fun K C => ?_) (B.1 _ (List.mem_of_getElem? (i := 62) rfl)) (B.1 _ (List.mem_of_getElem? (i := 57) rfl)) rfl rfl rfl rfl
  have Ex := S.exa
  have en : (Int32.ofNat cs.length).toInt = cs.length := ofNat_int (by omega)
  have hne : ¬ cs = [] := fun e => by rw [e] at hl; simp at hl
  have hmx := Int32.toInt_lt mx
  have hla : Lat cs := fun c hc => by have := hd c hc; omega
  have k48 : (48 : Int32).toInt = 48 := by decide
  have k57 : (57 : Int32).toInt = 57 := by decide
  have l10 : (10 : Int64).toInt = 10 := by decide
  refine C.aloadN d13_0 rfl rfl ?_
  refine C.callV x [] [] 0 (B.1 _ (List.mem_of_getElem? (i := 63) rfl)) (B.1 _ (List.mem_of_getElem? (i := 64) rfl)) (B.1 _ (List.mem_of_getElem? (i := 66) rfl)) (B.1 _ (List.mem_of_getElem? (i := 65) rfl)) (by decide) rfl Ex pd__28__29_Z rfl id (c_isEmpty B S) d13_1 rfl rfl rfl (by decide) (by decide) (by decide) (by decide) all0 fun v1 h1 z1 K1 q1 => ?_
  obtain ⟨rfl, rfl⟩ := q1
  show C.W h [] 0 0 (mkF K.m 4 #[.val (.ref x), .val (.ref y), .val (.int mn), .val (.int mx), .unset, .unset, .unset, .unset] [.int (if cs = [] then (1 : Int32) else 0)])
  refine C.ifc_eq 15 d13_4 (by decide) (by decide) (fun q3 => ?_) (fun q3 => ?_)
  · have hb2 : ¬ (cs = []) := fun e => by rw [if_pos e] at q3; revert q3; decide
    refine C.lconst (v := (0 : Int64)) d13_15 (by first | rfl | decide) ?_
    refine C.lstore #[.val (.ref x), .val (.ref y), .val (.int mn), .val (.int mx), .val (.long (0 : Int64)), .second, .unset, .unset] d13_16 rfl ?_
    refine C.iconst (v := (0 : Int32)) d13_18 (by first | rfl | decide) ?_
    refine C.istore #[.val (.ref x), .val (.ref y), .val (.int mn), .val (.int mx), .val (.long (0 : Int64)), .second, .val (.int (0 : Int32)), .unset] d13_19 rfl ?_
    suffices LOOP : ∀ (j k : Nat) (t : Int64) (s7 : Slot), j + k = cs.length → One s7 → t.toInt = dv 0 (cs.take k) → C.W h [] 0 0 (mkF K.m 21 #[.val (.ref x), .val (.ref y), .val (.int mn), .val (.int mx), .val (.long t), .second, .val (.int (Int32.ofNat k)), s7] []) from LOOP cs.length 0 _ .unset (by omega) One.u rfl
    intro j
    induction j with
    | zero =>
      intro k t s7 hjk h7 ht
      have ek : (Int32.ofNat k).toInt = k := ofNat_int (by omega)
      have pre := dv_pre (k := k) hd
      refine C.iload d13_21 rfl ?_
      refine C.aloadN d13_23 rfl rfl ?_
      refine C.callV x [] [.int (Int32.ofNat k)] 1 (B.1 _ (List.mem_of_getElem? (i := 68) rfl)) (B.1 _ (List.mem_of_getElem? (i := 69) rfl)) (B.1 _ (List.mem_of_getElem? (i := 71) rfl)) (B.1 _ (List.mem_of_getElem? (i := 70) rfl)) (by decide) rfl Ex pd__28__29_I rfl id (c_length B S) d13_24 rfl rfl rfl (by decide) (by decide) (by decide) (by decide) all0 fun v4 h4 z4 K4 q4 => ?_
      obtain ⟨rfl, rfl⟩ := q4
      show C.W h [] 0 0 (mkF K.m 27 #[.val (.ref x), .val (.ref y), .val (.int mn), .val (.int mx), .val (.long t), .second, .val (.int (Int32.ofNat k)), s7] [.int (Int32.ofNat cs.length), .int (Int32.ofNat k)])
      refine C.icmp_ge 97 d13_27 (by decide) (by decide) (fun q5 => ?_) (fun q5 => ?_)
      · rw [List.take_of_length_le (by omega)] at ht
        have q1 := c_lcmp t mn.toInt64
        rw [c_i2l] at q1
        refine C.lload d13_97 rfl ?_
        refine C.iloadN d13_99 rfl ?_
        refine C.i2l d13_100 ?_
        refine C.lcmp d13_101 ?_
        refine C.ifc_ge 113 d13_102 (by decide) (by decide) (fun q6 => ?_) (fun q6 => ?_)
        · refine C.lload d13_113 rfl ?_
          refine C.l2i d13_115 ?_
          exact C.ireturn (t := .int) rfl (by simp) rfl d13_116 (by decide) (by decide) ⟨_, rfl, by rw [l2i_int (by omega) (by omega), ht], rfl⟩
        · exfalso; omega
      · exfalso; omega
    | succ j ih =>
      intro k t s7 hjk h7 ht
      have ek : (Int32.ofNat k).toInt = k := ofNat_int (by omega)
      have pre := dv_pre (k := k) hd
      refine C.iload d13_21 rfl ?_
      refine C.aloadN d13_23 rfl rfl ?_
      refine C.callV x [] [.int (Int32.ofNat k)] 1 (B.1 _ (List.mem_of_getElem? (i := 68) rfl)) (B.1 _ (List.mem_of_getElem? (i := 69) rfl)) (B.1 _ (List.mem_of_getElem? (i := 71) rfl)) (B.1 _ (List.mem_of_getElem? (i := 70) rfl)) (by decide) rfl Ex pd__28__29_I rfl id (c_length B S) d13_24 rfl rfl rfl (by decide) (by decide) (by decide) (by decide) all0 fun v7 h7 z7 K7 q7 => ?_
      obtain ⟨rfl, rfl⟩ := q7
      show C.W h [] 0 0 (mkF K.m 27 #[.val (.ref x), .val (.ref y), .val (.int mn), .val (.int mx), .val (.long t), .second, .val (.int (Int32.ofNat k)), s7] [.int (Int32.ofNat cs.length), .int (Int32.ofNat k)])
      refine C.icmp_ge 97 d13_27 (by decide) (by decide) (fun q8 => ?_) (fun q8 => ?_)
      · exfalso; omega
      · obtain ⟨c, hc⟩ : ∃ c, cs[k]? = some c := ⟨_, List.getElem?_eq_getElem (by omega)⟩
        have hcd := hd c (List.mem_of_getElem? hc)
        have hst := dv_step hc
        have pre2 := dv_pre (k := k + 1) hd
        have qten := step10 (t := t) (ten := 10) (c := c) (k48 := 48) (by omega) (by omega) l10 hcd k48
        refine C.aloadN d13_30 rfl rfl ?_
        refine C.iload d13_31 rfl ?_
        refine C.callV x [.int (Int32.ofNat k)] [] 0 (B.1 _ (List.mem_of_getElem? (i := 78) rfl)) (B.1 _ (List.mem_of_getElem? (i := 79) rfl)) (B.1 _ (List.mem_of_getElem? (i := 81) rfl)) (B.1 _ (List.mem_of_getElem? (i := 80) rfl)) (by decide) rfl Ex pd__28_I_29_C rfl id (c_charAt B S ek hc hla) d13_33 rfl rfl rfl (by decide) (by decide) (by decide) (by decide) all0 fun v9 h9 z9 K9 q9 => ?_
        obtain ⟨rfl, rfl⟩ := q9
        show C.W h [] 0 0 (mkF K.m 36 #[.val (.ref x), .val (.ref y), .val (.int mn), .val (.int mx), .val (.long t), .second, .val (.int (Int32.ofNat k)), s7] [.int c])
        refine C.istore #[.val (.ref x), .val (.ref y), .val (.int mn), .val (.int mx), .val (.long t), .second, .val (.int (Int32.ofNat k)), .val (.int c)] d13_36 (XS.store1 rfl h7 rfl) ?_
        refine C.iload d13_38 rfl ?_
        refine C.bipush (v := (48 : Int32)) d13_40 (by first | rfl | decide) ?_
        refine C.icmp_lt 52 d13_42 (by decide) (by decide) (fun q10 => ?_) (fun q10 => ?_)
        · exfalso; omega
        · refine C.iload d13_45 rfl ?_
          refine C.bipush (v := (57 : Int32)) d13_47 (by first | rfl | decide) ?_
          refine C.icmp_le 60 d13_49 (by decide) (by decide) (fun q11 => ?_) (fun q11 => ?_)
          · refine C.lload d13_60 rfl ?_
            refine C.ldc2Long (v := (10 : Int64)) (B.1 _ (List.mem_of_getElem? (i := 100) rfl)) d13_62 ?_
            refine C.lmul d13_65 ?_
            refine C.iload d13_66 rfl ?_
            refine C.bipush (v := (48 : Int32)) d13_68 (by first | rfl | decide) ?_
            refine C.isub d13_70 ?_
            refine C.i2l d13_71 ?_
            refine C.ladd d13_72 ?_
            refine C.lstore #[.val (.ref x), .val (.ref y), .val (.int mn), .val (.int mx), .val (.long ((t * (10 : Int64)) + (c - (48 : Int32)).toInt64)), .second, .val (.int (Int32.ofNat k)), .val (.int c)] d13_73 rfl ?_
            refine C.lload d13_75 rfl ?_
            refine C.iloadN d13_77 rfl ?_
            refine C.i2l d13_78 ?_
            refine C.lcmp d13_79 ?_
            have q2 := c_lcmp (t * (10 : Int64) + (c - (48 : Int32)).toInt64) mx.toInt64
            rw [c_i2l] at q2
            refine C.ifc_le 91 d13_80 (by decide) (by decide) (fun q12 => ?_) (fun q12 => ?_)
            · refine C.iinc (z := (1 : Int32)) #[.val (.ref x), .val (.ref y), .val (.int mn), .val (.int mx), .val (.long ((t * (10 : Int64)) + (c - (48 : Int32)).toInt64)), .second, .val (.int ((Int32.ofNat k) + (1 : Int32))), .val (.int c)] d13_91 rfl (by first | rfl | decide) rfl ?_
              refine C.goto 21 d13_94 (by decide) (by decide) ?_
              rw [ofNat_succ]
              exact ih (k + 1) _ _ (by omega) (One.val rfl) (by rw [qten, hst, ht])
            · exfalso; omega
          · exfalso; omega
  · have hb2 : cs = [] := Classical.byContradiction fun e => by rw [if_neg e] at q3; exact q3 rfl
    exfalso; exact hne hb2
set_option maxRecDepth 65536 in
set_option maxHeartbeats 40000000 in
theorem c_recinit  (B : Base Z a0) {h : Heap} {a : Nat} : Con l Z a0 EL it n0 (⟨"java/lang/Record", "<init>", "()V"⟩ : MethodName) 2 24 0 0 #[.ref a] h [] (fun v h' => v = none ∧ h = h') := by
  refine Met.con (bytes := jdk_30_method_1_code) (maxL := 1) (ret := none) (rm := ({ frames := 1, cells := 0, slots := 0, locals := 12 } : Room)) (Met.of (own := "java/lang/Record") (nm := "<init>") #[.val (.ref a)] (ew B) rfl rfl (plainFor_of_name pn_java_lang_Record) (fun m => by first | (simp [entryFrame, mkF, argsToLocals, Value.category]; done) | rfl) fun K C => ?_) (B.1 _ (List.mem_of_getElem? (i := 108) rfl)) (B.1 _ (List.mem_of_getElem? (i := 107) rfl)) rfl rfl rfl rfl
  refine C.aloadN d14_0 rfl rfl ?_
  refine C.initO 0 (B.1 _ (List.mem_of_getElem? (i := 109) rfl)) (B.1 _ (List.mem_of_getElem? (i := 28) rfl)) (B.1 _ (List.mem_of_getElem? (i := 29) rfl)) d14_1 rfl rfl (by decide) (by decide) ?_
  show C.W h [] 0 0 (mkF K.m 4 #[.val (.ref a)] [])
  exact C.return_ rfl d14_4 (by decide) (by decide) ⟨rfl, rfl⟩
theorem dig1 {V : Int} {c0 : Int32} (e0 : c0.toInt = 48 + V / 1 % 10) : dv 0 [c0] = V % 10 := by
  have o : V / 1 = V := Int.ediv_one V
  have s0 : V / 1 = 10 * (V / 10) + V / 1 % 10 := digit_step V 1 (by decide)
  rw [o] at s0 e0
  have f0 : c0.toInt - 48 = V - 10 * (V / 10) := by omega
  clear e0 s0
  show (10 * 0 + (c0.toInt - 48)) = V % 10
  rw [f0]
  omega
theorem dig2 {V : Int} {c0 c1 : Int32} (e0 : c0.toInt = 48 + V / 10 % 10) (e1 : c1.toInt = 48 + V / 1 % 10) : dv 0 [c0, c1] = V % 100 := by
  have o : V / 1 = V := Int.ediv_one V
  have s0 : V / 10 = 10 * (V / 100) + V / 10 % 10 := digit_step V 10 (by decide)
  have s1 : V / 1 = 10 * (V / 10) + V / 1 % 10 := digit_step V 1 (by decide)
  rw [o] at s1 e1
  have f0 : c0.toInt - 48 = V / 10 - 10 * (V / 100) := by omega
  have f1 : c1.toInt - 48 = V - 10 * (V / 10) := by omega
  clear e0 e1 s0 s1
  show (10 * (10 * 0 + (c0.toInt - 48)) + (c1.toInt - 48)) = V % 100
  rw [f0]
  rw [f1]
  generalize V / 10 = d10
  omega
theorem dig3 {V : Int} {c0 c1 c2 : Int32} (e0 : c0.toInt = 48 + V / 100 % 10) (e1 : c1.toInt = 48 + V / 10 % 10) (e2 : c2.toInt = 48 + V / 1 % 10) : dv 0 [c0, c1, c2] = V % 1000 := by
  have o : V / 1 = V := Int.ediv_one V
  have s0 : V / 100 = 10 * (V / 1000) + V / 100 % 10 := digit_step V 100 (by decide)
  have s1 : V / 10 = 10 * (V / 100) + V / 10 % 10 := digit_step V 10 (by decide)
  have s2 : V / 1 = 10 * (V / 10) + V / 1 % 10 := digit_step V 1 (by decide)
  rw [o] at s2 e2
  have f0 : c0.toInt - 48 = V / 100 - 10 * (V / 1000) := by omega
  have f1 : c1.toInt - 48 = V / 10 - 10 * (V / 100) := by omega
  have f2 : c2.toInt - 48 = V - 10 * (V / 10) := by omega
  clear e0 e1 e2 s0 s1 s2
  show (10 * (10 * (10 * 0 + (c0.toInt - 48)) + (c1.toInt - 48)) + (c2.toInt - 48)) = V % 1000
  rw [f0]
  rw [f1]
  rw [f2]
  generalize V / 100 = d100
  generalize V / 10 = d10
  omega
theorem dig4 {V : Int} {c0 c1 c2 c3 : Int32} (e0 : c0.toInt = 48 + V / 1000 % 10) (e1 : c1.toInt = 48 + V / 100 % 10) (e2 : c2.toInt = 48 + V / 10 % 10) (e3 : c3.toInt = 48 + V / 1 % 10) : dv 0 [c0, c1, c2, c3] = V % 10000 := by
  have o : V / 1 = V := Int.ediv_one V
  have s0 : V / 1000 = 10 * (V / 10000) + V / 1000 % 10 := digit_step V 1000 (by decide)
  have s1 : V / 100 = 10 * (V / 1000) + V / 100 % 10 := digit_step V 100 (by decide)
  have s2 : V / 10 = 10 * (V / 100) + V / 10 % 10 := digit_step V 10 (by decide)
  have s3 : V / 1 = 10 * (V / 10) + V / 1 % 10 := digit_step V 1 (by decide)
  rw [o] at s3 e3
  have f0 : c0.toInt - 48 = V / 1000 - 10 * (V / 10000) := by omega
  have f1 : c1.toInt - 48 = V / 100 - 10 * (V / 1000) := by omega
  have f2 : c2.toInt - 48 = V / 10 - 10 * (V / 100) := by omega
  have f3 : c3.toInt - 48 = V - 10 * (V / 10) := by omega
  clear e0 e1 e2 e3 s0 s1 s2 s3
  show (10 * (10 * (10 * (10 * 0 + (c0.toInt - 48)) + (c1.toInt - 48)) + (c2.toInt - 48)) + (c3.toInt - 48)) = V % 10000
  rw [f0]
  rw [f1]
  rw [f2]
  rw [f3]
  generalize V / 1000 = d1000
  generalize V / 100 = d100
  generalize V / 10 = d10
  omega
theorem dig5 {V : Int} {c0 c1 c2 c3 c4 : Int32} (e0 : c0.toInt = 48 + V / 10000 % 10) (e1 : c1.toInt = 48 + V / 1000 % 10) (e2 : c2.toInt = 48 + V / 100 % 10) (e3 : c3.toInt = 48 + V / 10 % 10) (e4 : c4.toInt = 48 + V / 1 % 10) : dv 0 [c0, c1, c2, c3, c4] = V % 100000 := by
  have o : V / 1 = V := Int.ediv_one V
  have s0 : V / 10000 = 10 * (V / 100000) + V / 10000 % 10 := digit_step V 10000 (by decide)
  have s1 : V / 1000 = 10 * (V / 10000) + V / 1000 % 10 := digit_step V 1000 (by decide)
  have s2 : V / 100 = 10 * (V / 1000) + V / 100 % 10 := digit_step V 100 (by decide)
  have s3 : V / 10 = 10 * (V / 100) + V / 10 % 10 := digit_step V 10 (by decide)
  have s4 : V / 1 = 10 * (V / 10) + V / 1 % 10 := digit_step V 1 (by decide)
  rw [o] at s4 e4
  have f0 : c0.toInt - 48 = V / 10000 - 10 * (V / 100000) := by omega
  have f1 : c1.toInt - 48 = V / 1000 - 10 * (V / 10000) := by omega
  have f2 : c2.toInt - 48 = V / 100 - 10 * (V / 1000) := by omega
  have f3 : c3.toInt - 48 = V / 10 - 10 * (V / 100) := by omega
  have f4 : c4.toInt - 48 = V - 10 * (V / 10) := by omega
  clear e0 e1 e2 e3 e4 s0 s1 s2 s3 s4
  show (10 * (10 * (10 * (10 * (10 * 0 + (c0.toInt - 48)) + (c1.toInt - 48)) + (c2.toInt - 48)) + (c3.toInt - 48)) + (c4.toInt - 48)) = V % 100000
  rw [f0]
  rw [f1]
  rw [f2]
  rw [f3]
  rw [f4]
  generalize V / 10000 = d10000
  generalize V / 1000 = d1000
  generalize V / 100 = d100
  generalize V / 10 = d10
  omega
theorem dig6 {V : Int} {c0 c1 c2 c3 c4 c5 : Int32} (e0 : c0.toInt = 48 + V / 100000 % 10) (e1 : c1.toInt = 48 + V / 10000 % 10) (e2 : c2.toInt = 48 + V / 1000 % 10) (e3 : c3.toInt = 48 + V / 100 % 10) (e4 : c4.toInt = 48 + V / 10 % 10) (e5 : c5.toInt = 48 + V / 1 % 10) : dv 0 [c0, c1, c2, c3, c4, c5] = V % 1000000 := by
  have o : V / 1 = V := Int.ediv_one V
  have s0 : V / 100000 = 10 * (V / 1000000) + V / 100000 % 10 := digit_step V 100000 (by decide)
  have s1 : V / 10000 = 10 * (V / 100000) + V / 10000 % 10 := digit_step V 10000 (by decide)
  have s2 : V / 1000 = 10 * (V / 10000) + V / 1000 % 10 := digit_step V 1000 (by decide)
  have s3 : V / 100 = 10 * (V / 1000) + V / 100 % 10 := digit_step V 100 (by decide)
  have s4 : V / 10 = 10 * (V / 100) + V / 10 % 10 := digit_step V 10 (by decide)
  have s5 : V / 1 = 10 * (V / 10) + V / 1 % 10 := digit_step V 1 (by decide)
  rw [o] at s5 e5
  have f0 : c0.toInt - 48 = V / 100000 - 10 * (V / 1000000) := by omega
  have f1 : c1.toInt - 48 = V / 10000 - 10 * (V / 100000) := by omega
  have f2 : c2.toInt - 48 = V / 1000 - 10 * (V / 10000) := by omega
  have f3 : c3.toInt - 48 = V / 100 - 10 * (V / 1000) := by omega
  have f4 : c4.toInt - 48 = V / 10 - 10 * (V / 100) := by omega
  have f5 : c5.toInt - 48 = V - 10 * (V / 10) := by omega
  clear e0 e1 e2 e3 e4 e5 s0 s1 s2 s3 s4 s5
  show (10 * (10 * (10 * (10 * (10 * (10 * 0 + (c0.toInt - 48)) + (c1.toInt - 48)) + (c2.toInt - 48)) + (c3.toInt - 48)) + (c4.toInt - 48)) + (c5.toInt - 48)) = V % 1000000
  rw [f0]
  rw [f1]
  rw [f2]
  rw [f3]
  rw [f4]
  rw [f5]
  generalize V / 100000 = d100000
  generalize V / 10000 = d10000
  generalize V / 1000 = d1000
  generalize V / 100 = d100
  generalize V / 10 = d10
  omega
theorem dig7 {V : Int} {c0 c1 c2 c3 c4 c5 c6 : Int32} (e0 : c0.toInt = 48 + V / 1000000 % 10) (e1 : c1.toInt = 48 + V / 100000 % 10) (e2 : c2.toInt = 48 + V / 10000 % 10) (e3 : c3.toInt = 48 + V / 1000 % 10) (e4 : c4.toInt = 48 + V / 100 % 10) (e5 : c5.toInt = 48 + V / 10 % 10) (e6 : c6.toInt = 48 + V / 1 % 10) : dv 0 [c0, c1, c2, c3, c4, c5, c6] = V % 10000000 := by
  have o : V / 1 = V := Int.ediv_one V
  have s0 : V / 1000000 = 10 * (V / 10000000) + V / 1000000 % 10 := digit_step V 1000000 (by decide)
  have s1 : V / 100000 = 10 * (V / 1000000) + V / 100000 % 10 := digit_step V 100000 (by decide)
  have s2 : V / 10000 = 10 * (V / 100000) + V / 10000 % 10 := digit_step V 10000 (by decide)
  have s3 : V / 1000 = 10 * (V / 10000) + V / 1000 % 10 := digit_step V 1000 (by decide)
  have s4 : V / 100 = 10 * (V / 1000) + V / 100 % 10 := digit_step V 100 (by decide)
  have s5 : V / 10 = 10 * (V / 100) + V / 10 % 10 := digit_step V 10 (by decide)
  have s6 : V / 1 = 10 * (V / 10) + V / 1 % 10 := digit_step V 1 (by decide)
  rw [o] at s6 e6
  have f0 : c0.toInt - 48 = V / 1000000 - 10 * (V / 10000000) := by omega
  have f1 : c1.toInt - 48 = V / 100000 - 10 * (V / 1000000) := by omega
  have f2 : c2.toInt - 48 = V / 10000 - 10 * (V / 100000) := by omega
  have f3 : c3.toInt - 48 = V / 1000 - 10 * (V / 10000) := by omega
  have f4 : c4.toInt - 48 = V / 100 - 10 * (V / 1000) := by omega
  have f5 : c5.toInt - 48 = V / 10 - 10 * (V / 100) := by omega
  have f6 : c6.toInt - 48 = V - 10 * (V / 10) := by omega
  clear e0 e1 e2 e3 e4 e5 e6 s0 s1 s2 s3 s4 s5 s6
  show (10 * (10 * (10 * (10 * (10 * (10 * (10 * 0 + (c0.toInt - 48)) + (c1.toInt - 48)) + (c2.toInt - 48)) + (c3.toInt - 48)) + (c4.toInt - 48)) + (c5.toInt - 48)) + (c6.toInt - 48)) = V % 10000000
  rw [f0]
  rw [f1]
  rw [f2]
  rw [f3]
  rw [f4]
  rw [f5]
  rw [f6]
  generalize V / 1000000 = d1000000
  generalize V / 100000 = d100000
  generalize V / 10000 = d10000
  generalize V / 1000 = d1000
  generalize V / 100 = d100
  generalize V / 10 = d10
  omega
theorem dig8 {V : Int} {c0 c1 c2 c3 c4 c5 c6 c7 : Int32} (e0 : c0.toInt = 48 + V / 10000000 % 10) (e1 : c1.toInt = 48 + V / 1000000 % 10) (e2 : c2.toInt = 48 + V / 100000 % 10) (e3 : c3.toInt = 48 + V / 10000 % 10) (e4 : c4.toInt = 48 + V / 1000 % 10) (e5 : c5.toInt = 48 + V / 100 % 10) (e6 : c6.toInt = 48 + V / 10 % 10) (e7 : c7.toInt = 48 + V / 1 % 10) : dv 0 [c0, c1, c2, c3, c4, c5, c6, c7] = V % 100000000 := by
  have o : V / 1 = V := Int.ediv_one V
  have s0 : V / 10000000 = 10 * (V / 100000000) + V / 10000000 % 10 := digit_step V 10000000 (by decide)
  have s1 : V / 1000000 = 10 * (V / 10000000) + V / 1000000 % 10 := digit_step V 1000000 (by decide)
  have s2 : V / 100000 = 10 * (V / 1000000) + V / 100000 % 10 := digit_step V 100000 (by decide)
  have s3 : V / 10000 = 10 * (V / 100000) + V / 10000 % 10 := digit_step V 10000 (by decide)
  have s4 : V / 1000 = 10 * (V / 10000) + V / 1000 % 10 := digit_step V 1000 (by decide)
  have s5 : V / 100 = 10 * (V / 1000) + V / 100 % 10 := digit_step V 100 (by decide)
  have s6 : V / 10 = 10 * (V / 100) + V / 10 % 10 := digit_step V 10 (by decide)
  have s7 : V / 1 = 10 * (V / 10) + V / 1 % 10 := digit_step V 1 (by decide)
  rw [o] at s7 e7
  have f0 : c0.toInt - 48 = V / 10000000 - 10 * (V / 100000000) := by omega
  have f1 : c1.toInt - 48 = V / 1000000 - 10 * (V / 10000000) := by omega
  have f2 : c2.toInt - 48 = V / 100000 - 10 * (V / 1000000) := by omega
  have f3 : c3.toInt - 48 = V / 10000 - 10 * (V / 100000) := by omega
  have f4 : c4.toInt - 48 = V / 1000 - 10 * (V / 10000) := by omega
  have f5 : c5.toInt - 48 = V / 100 - 10 * (V / 1000) := by omega
  have f6 : c6.toInt - 48 = V / 10 - 10 * (V / 100) := by omega
  have f7 : c7.toInt - 48 = V - 10 * (V / 10) := by omega
  clear e0 e1 e2 e3 e4 e5 e6 e7 s0 s1 s2 s3 s4 s5 s6 s7
  show (10 * (10 * (10 * (10 * (10 * (10 * (10 * (10 * 0 + (c0.toInt - 48)) + (c1.toInt - 48)) + (c2.toInt - 48)) + (c3.toInt - 48)) + (c4.toInt - 48)) + (c5.toInt - 48)) + (c6.toInt - 48)) + (c7.toInt - 48)) = V % 100000000
  rw [f0]
  rw [f1]
  rw [f2]
  rw [f3]
  rw [f4]
  rw [f5]
  rw [f6]
  rw [f7]
  generalize V / 10000000 = d10000000
  generalize V / 1000000 = d1000000
  generalize V / 100000 = d100000
  generalize V / 10000 = d10000
  generalize V / 1000 = d1000
  generalize V / 100 = d100
  generalize V / 10 = d10
  omega
theorem dig9 {V : Int} {c0 c1 c2 c3 c4 c5 c6 c7 c8 : Int32} (e0 : c0.toInt = 48 + V / 100000000 % 10) (e1 : c1.toInt = 48 + V / 10000000 % 10) (e2 : c2.toInt = 48 + V / 1000000 % 10) (e3 : c3.toInt = 48 + V / 100000 % 10) (e4 : c4.toInt = 48 + V / 10000 % 10) (e5 : c5.toInt = 48 + V / 1000 % 10) (e6 : c6.toInt = 48 + V / 100 % 10) (e7 : c7.toInt = 48 + V / 10 % 10) (e8 : c8.toInt = 48 + V / 1 % 10) : dv 0 [c0, c1, c2, c3, c4, c5, c6, c7, c8] = V % 1000000000 := by
  have o : V / 1 = V := Int.ediv_one V
  have s0 : V / 100000000 = 10 * (V / 1000000000) + V / 100000000 % 10 := digit_step V 100000000 (by decide)
  have s1 : V / 10000000 = 10 * (V / 100000000) + V / 10000000 % 10 := digit_step V 10000000 (by decide)
  have s2 : V / 1000000 = 10 * (V / 10000000) + V / 1000000 % 10 := digit_step V 1000000 (by decide)
  have s3 : V / 100000 = 10 * (V / 1000000) + V / 100000 % 10 := digit_step V 100000 (by decide)
  have s4 : V / 10000 = 10 * (V / 100000) + V / 10000 % 10 := digit_step V 10000 (by decide)
  have s5 : V / 1000 = 10 * (V / 10000) + V / 1000 % 10 := digit_step V 1000 (by decide)
  have s6 : V / 100 = 10 * (V / 1000) + V / 100 % 10 := digit_step V 100 (by decide)
  have s7 : V / 10 = 10 * (V / 100) + V / 10 % 10 := digit_step V 10 (by decide)
  have s8 : V / 1 = 10 * (V / 10) + V / 1 % 10 := digit_step V 1 (by decide)
  rw [o] at s8 e8
  have f0 : c0.toInt - 48 = V / 100000000 - 10 * (V / 1000000000) := by omega
  have f1 : c1.toInt - 48 = V / 10000000 - 10 * (V / 100000000) := by omega
  have f2 : c2.toInt - 48 = V / 1000000 - 10 * (V / 10000000) := by omega
  have f3 : c3.toInt - 48 = V / 100000 - 10 * (V / 1000000) := by omega
  have f4 : c4.toInt - 48 = V / 10000 - 10 * (V / 100000) := by omega
  have f5 : c5.toInt - 48 = V / 1000 - 10 * (V / 10000) := by omega
  have f6 : c6.toInt - 48 = V / 100 - 10 * (V / 1000) := by omega
  have f7 : c7.toInt - 48 = V / 10 - 10 * (V / 100) := by omega
  have f8 : c8.toInt - 48 = V - 10 * (V / 10) := by omega
  clear e0 e1 e2 e3 e4 e5 e6 e7 e8 s0 s1 s2 s3 s4 s5 s6 s7 s8
  show (10 * (10 * (10 * (10 * (10 * (10 * (10 * (10 * (10 * 0 + (c0.toInt - 48)) + (c1.toInt - 48)) + (c2.toInt - 48)) + (c3.toInt - 48)) + (c4.toInt - 48)) + (c5.toInt - 48)) + (c6.toInt - 48)) + (c7.toInt - 48)) + (c8.toInt - 48)) = V % 1000000000
  rw [f0]
  rw [f1]
  rw [f2]
  rw [f3]
  rw [f4]
  rw [f5]
  rw [f6]
  rw [f7]
  rw [f8]
  generalize V / 100000000 = d100000000
  generalize V / 10000000 = d10000000
  generalize V / 1000000 = d1000000
  generalize V / 100000 = d100000
  generalize V / 10000 = d10000
  generalize V / 1000 = d1000
  generalize V / 100 = d100
  generalize V / 10 = d10
  omega
theorem dig10 {V : Int} {c0 c1 c2 c3 c4 c5 c6 c7 c8 c9 : Int32} (e0 : c0.toInt = 48 + V / 1000000000 % 10) (e1 : c1.toInt = 48 + V / 100000000 % 10) (e2 : c2.toInt = 48 + V / 10000000 % 10) (e3 : c3.toInt = 48 + V / 1000000 % 10) (e4 : c4.toInt = 48 + V / 100000 % 10) (e5 : c5.toInt = 48 + V / 10000 % 10) (e6 : c6.toInt = 48 + V / 1000 % 10) (e7 : c7.toInt = 48 + V / 100 % 10) (e8 : c8.toInt = 48 + V / 10 % 10) (e9 : c9.toInt = 48 + V / 1 % 10) : dv 0 [c0, c1, c2, c3, c4, c5, c6, c7, c8, c9] = V % 10000000000 := by
  have o : V / 1 = V := Int.ediv_one V
  have s0 : V / 1000000000 = 10 * (V / 10000000000) + V / 1000000000 % 10 := digit_step V 1000000000 (by decide)
  have s1 : V / 100000000 = 10 * (V / 1000000000) + V / 100000000 % 10 := digit_step V 100000000 (by decide)
  have s2 : V / 10000000 = 10 * (V / 100000000) + V / 10000000 % 10 := digit_step V 10000000 (by decide)
  have s3 : V / 1000000 = 10 * (V / 10000000) + V / 1000000 % 10 := digit_step V 1000000 (by decide)
  have s4 : V / 100000 = 10 * (V / 1000000) + V / 100000 % 10 := digit_step V 100000 (by decide)
  have s5 : V / 10000 = 10 * (V / 100000) + V / 10000 % 10 := digit_step V 10000 (by decide)
  have s6 : V / 1000 = 10 * (V / 10000) + V / 1000 % 10 := digit_step V 1000 (by decide)
  have s7 : V / 100 = 10 * (V / 1000) + V / 100 % 10 := digit_step V 100 (by decide)
  have s8 : V / 10 = 10 * (V / 100) + V / 10 % 10 := digit_step V 10 (by decide)
  have s9 : V / 1 = 10 * (V / 10) + V / 1 % 10 := digit_step V 1 (by decide)
  rw [o] at s9 e9
  have f0 : c0.toInt - 48 = V / 1000000000 - 10 * (V / 10000000000) := by omega
  have f1 : c1.toInt - 48 = V / 100000000 - 10 * (V / 1000000000) := by omega
  have f2 : c2.toInt - 48 = V / 10000000 - 10 * (V / 100000000) := by omega
  have f3 : c3.toInt - 48 = V / 1000000 - 10 * (V / 10000000) := by omega
  have f4 : c4.toInt - 48 = V / 100000 - 10 * (V / 1000000) := by omega
  have f5 : c5.toInt - 48 = V / 10000 - 10 * (V / 100000) := by omega
  have f6 : c6.toInt - 48 = V / 1000 - 10 * (V / 10000) := by omega
  have f7 : c7.toInt - 48 = V / 100 - 10 * (V / 1000) := by omega
  have f8 : c8.toInt - 48 = V / 10 - 10 * (V / 100) := by omega
  have f9 : c9.toInt - 48 = V - 10 * (V / 10) := by omega
  clear e0 e1 e2 e3 e4 e5 e6 e7 e8 e9 s0 s1 s2 s3 s4 s5 s6 s7 s8 s9
  show (10 * (10 * (10 * (10 * (10 * (10 * (10 * (10 * (10 * (10 * 0 + (c0.toInt - 48)) + (c1.toInt - 48)) + (c2.toInt - 48)) + (c3.toInt - 48)) + (c4.toInt - 48)) + (c5.toInt - 48)) + (c6.toInt - 48)) + (c7.toInt - 48)) + (c8.toInt - 48)) + (c9.toInt - 48)) = V % 10000000000
  rw [f0]
  rw [f1]
  rw [f2]
  rw [f3]
  rw [f4]
  rw [f5]
  rw [f6]
  rw [f7]
  rw [f8]
  rw [f9]
  generalize V / 1000000000 = d1000000000
  generalize V / 100000000 = d100000000
  generalize V / 10000000 = d10000000
  generalize V / 1000000 = d1000000
  generalize V / 100000 = d100000
  generalize V / 10000 = d10000
  generalize V / 1000 = d1000
  generalize V / 100 = d100
  generalize V / 10 = d10
  omega
theorem dig11 {V : Int} {c0 c1 c2 c3 c4 c5 c6 c7 c8 c9 c10 : Int32} (e0 : c0.toInt = 48 + V / 10000000000 % 10) (e1 : c1.toInt = 48 + V / 1000000000 % 10) (e2 : c2.toInt = 48 + V / 100000000 % 10) (e3 : c3.toInt = 48 + V / 10000000 % 10) (e4 : c4.toInt = 48 + V / 1000000 % 10) (e5 : c5.toInt = 48 + V / 100000 % 10) (e6 : c6.toInt = 48 + V / 10000 % 10) (e7 : c7.toInt = 48 + V / 1000 % 10) (e8 : c8.toInt = 48 + V / 100 % 10) (e9 : c9.toInt = 48 + V / 10 % 10) (e10 : c10.toInt = 48 + V / 1 % 10) : dv 0 [c0, c1, c2, c3, c4, c5, c6, c7, c8, c9, c10] = V % 100000000000 := by
  have o : V / 1 = V := Int.ediv_one V
  have s0 : V / 10000000000 = 10 * (V / 100000000000) + V / 10000000000 % 10 := digit_step V 10000000000 (by decide)
  have s1 : V / 1000000000 = 10 * (V / 10000000000) + V / 1000000000 % 10 := digit_step V 1000000000 (by decide)
  have s2 : V / 100000000 = 10 * (V / 1000000000) + V / 100000000 % 10 := digit_step V 100000000 (by decide)
  have s3 : V / 10000000 = 10 * (V / 100000000) + V / 10000000 % 10 := digit_step V 10000000 (by decide)
  have s4 : V / 1000000 = 10 * (V / 10000000) + V / 1000000 % 10 := digit_step V 1000000 (by decide)
  have s5 : V / 100000 = 10 * (V / 1000000) + V / 100000 % 10 := digit_step V 100000 (by decide)
  have s6 : V / 10000 = 10 * (V / 100000) + V / 10000 % 10 := digit_step V 10000 (by decide)
  have s7 : V / 1000 = 10 * (V / 10000) + V / 1000 % 10 := digit_step V 1000 (by decide)
  have s8 : V / 100 = 10 * (V / 1000) + V / 100 % 10 := digit_step V 100 (by decide)
  have s9 : V / 10 = 10 * (V / 100) + V / 10 % 10 := digit_step V 10 (by decide)
  have s10 : V / 1 = 10 * (V / 10) + V / 1 % 10 := digit_step V 1 (by decide)
  rw [o] at s10 e10
  have f0 : c0.toInt - 48 = V / 10000000000 - 10 * (V / 100000000000) := by omega
  have f1 : c1.toInt - 48 = V / 1000000000 - 10 * (V / 10000000000) := by omega
  have f2 : c2.toInt - 48 = V / 100000000 - 10 * (V / 1000000000) := by omega
  have f3 : c3.toInt - 48 = V / 10000000 - 10 * (V / 100000000) := by omega
  have f4 : c4.toInt - 48 = V / 1000000 - 10 * (V / 10000000) := by omega
  have f5 : c5.toInt - 48 = V / 100000 - 10 * (V / 1000000) := by omega
  have f6 : c6.toInt - 48 = V / 10000 - 10 * (V / 100000) := by omega
  have f7 : c7.toInt - 48 = V / 1000 - 10 * (V / 10000) := by omega
  have f8 : c8.toInt - 48 = V / 100 - 10 * (V / 1000) := by omega
  have f9 : c9.toInt - 48 = V / 10 - 10 * (V / 100) := by omega
  have f10 : c10.toInt - 48 = V - 10 * (V / 10) := by omega
  clear e0 e1 e2 e3 e4 e5 e6 e7 e8 e9 e10 s0 s1 s2 s3 s4 s5 s6 s7 s8 s9 s10
  show (10 * (10 * (10 * (10 * (10 * (10 * (10 * (10 * (10 * (10 * (10 * 0 + (c0.toInt - 48)) + (c1.toInt - 48)) + (c2.toInt - 48)) + (c3.toInt - 48)) + (c4.toInt - 48)) + (c5.toInt - 48)) + (c6.toInt - 48)) + (c7.toInt - 48)) + (c8.toInt - 48)) + (c9.toInt - 48)) + (c10.toInt - 48)) = V % 100000000000
  rw [f0]
  rw [f1]
  rw [f2]
  rw [f3]
  rw [f4]
  rw [f5]
  rw [f6]
  rw [f7]
  rw [f8]
  rw [f9]
  rw [f10]
  generalize V / 10000000000 = d10000000000
  generalize V / 1000000000 = d1000000000
  generalize V / 100000000 = d100000000
  generalize V / 10000000 = d10000000
  generalize V / 1000000 = d1000000
  generalize V / 100000 = d100000
  generalize V / 10000 = d10000
  generalize V / 1000 = d1000
  generalize V / 100 = d100
  generalize V / 10 = d10
  omega
theorem dig12 {V : Int} {c0 c1 c2 c3 c4 c5 c6 c7 c8 c9 c10 c11 : Int32} (e0 : c0.toInt = 48 + V / 100000000000 % 10) (e1 : c1.toInt = 48 + V / 10000000000 % 10) (e2 : c2.toInt = 48 + V / 1000000000 % 10) (e3 : c3.toInt = 48 + V / 100000000 % 10) (e4 : c4.toInt = 48 + V / 10000000 % 10) (e5 : c5.toInt = 48 + V / 1000000 % 10) (e6 : c6.toInt = 48 + V / 100000 % 10) (e7 : c7.toInt = 48 + V / 10000 % 10) (e8 : c8.toInt = 48 + V / 1000 % 10) (e9 : c9.toInt = 48 + V / 100 % 10) (e10 : c10.toInt = 48 + V / 10 % 10) (e11 : c11.toInt = 48 + V / 1 % 10) : dv 0 [c0, c1, c2, c3, c4, c5, c6, c7, c8, c9, c10, c11] = V % 1000000000000 := by
  have o : V / 1 = V := Int.ediv_one V
  have s0 : V / 100000000000 = 10 * (V / 1000000000000) + V / 100000000000 % 10 := digit_step V 100000000000 (by decide)
  have s1 : V / 10000000000 = 10 * (V / 100000000000) + V / 10000000000 % 10 := digit_step V 10000000000 (by decide)
  have s2 : V / 1000000000 = 10 * (V / 10000000000) + V / 1000000000 % 10 := digit_step V 1000000000 (by decide)
  have s3 : V / 100000000 = 10 * (V / 1000000000) + V / 100000000 % 10 := digit_step V 100000000 (by decide)
  have s4 : V / 10000000 = 10 * (V / 100000000) + V / 10000000 % 10 := digit_step V 10000000 (by decide)
  have s5 : V / 1000000 = 10 * (V / 10000000) + V / 1000000 % 10 := digit_step V 1000000 (by decide)
  have s6 : V / 100000 = 10 * (V / 1000000) + V / 100000 % 10 := digit_step V 100000 (by decide)
  have s7 : V / 10000 = 10 * (V / 100000) + V / 10000 % 10 := digit_step V 10000 (by decide)
  have s8 : V / 1000 = 10 * (V / 10000) + V / 1000 % 10 := digit_step V 1000 (by decide)
  have s9 : V / 100 = 10 * (V / 1000) + V / 100 % 10 := digit_step V 100 (by decide)
  have s10 : V / 10 = 10 * (V / 100) + V / 10 % 10 := digit_step V 10 (by decide)
  have s11 : V / 1 = 10 * (V / 10) + V / 1 % 10 := digit_step V 1 (by decide)
  rw [o] at s11 e11
  have f0 : c0.toInt - 48 = V / 100000000000 - 10 * (V / 1000000000000) := by omega
  have f1 : c1.toInt - 48 = V / 10000000000 - 10 * (V / 100000000000) := by omega
  have f2 : c2.toInt - 48 = V / 1000000000 - 10 * (V / 10000000000) := by omega
  have f3 : c3.toInt - 48 = V / 100000000 - 10 * (V / 1000000000) := by omega
  have f4 : c4.toInt - 48 = V / 10000000 - 10 * (V / 100000000) := by omega
  have f5 : c5.toInt - 48 = V / 1000000 - 10 * (V / 10000000) := by omega
  have f6 : c6.toInt - 48 = V / 100000 - 10 * (V / 1000000) := by omega
  have f7 : c7.toInt - 48 = V / 10000 - 10 * (V / 100000) := by omega
  have f8 : c8.toInt - 48 = V / 1000 - 10 * (V / 10000) := by omega
  have f9 : c9.toInt - 48 = V / 100 - 10 * (V / 1000) := by omega
  have f10 : c10.toInt - 48 = V / 10 - 10 * (V / 100) := by omega
  have f11 : c11.toInt - 48 = V - 10 * (V / 10) := by omega
  clear e0 e1 e2 e3 e4 e5 e6 e7 e8 e9 e10 e11 s0 s1 s2 s3 s4 s5 s6 s7 s8 s9 s10 s11
  show (10 * (10 * (10 * (10 * (10 * (10 * (10 * (10 * (10 * (10 * (10 * (10 * 0 + (c0.toInt - 48)) + (c1.toInt - 48)) + (c2.toInt - 48)) + (c3.toInt - 48)) + (c4.toInt - 48)) + (c5.toInt - 48)) + (c6.toInt - 48)) + (c7.toInt - 48)) + (c8.toInt - 48)) + (c9.toInt - 48)) + (c10.toInt - 48)) + (c11.toInt - 48)) = V % 1000000000000
  rw [f0]
  rw [f1]
  rw [f2]
  rw [f3]
  rw [f4]
  rw [f5]
  rw [f6]
  rw [f7]
  rw [f8]
  rw [f9]
  rw [f10]
  rw [f11]
  generalize V / 100000000000 = d100000000000
  generalize V / 10000000000 = d10000000000
  generalize V / 1000000000 = d1000000000
  generalize V / 100000000 = d100000000
  generalize V / 10000000 = d10000000
  generalize V / 1000000 = d1000000
  generalize V / 100000 = d100000
  generalize V / 10000 = d10000
  generalize V / 1000 = d1000
  generalize V / 100 = d100
  generalize V / 10 = d10
  omega
set_option maxRecDepth 65536 in
set_option maxHeartbeats 40000000 in
theorem c_dig  (B : Base Z a0) {h : Heap} {u p : Int32} (h0 : 0 ≤ u.toInt) (hp : 0 < p.toInt) : Con l Z a0 EL it n0 (⟨"com/example/quire/quire/catalogue/RecordNumberParsePinLaw", "dig", "(II)C"⟩ : MethodName) 1 13 0 0 #[.int u, .int p] h [] (fun v h' => ∃ r : Int32, v = some (.int r) ∧ (48 ≤ r.toInt ∧ r.toInt ≤ 57) ∧ Dg u.toInt p.toInt r ∧ h = h') := by
  refine Met.con (bytes := method_2_code) (maxL := 2) (ret := (some .char)) (rm := ({ frames := 0, cells := 0, slots := 0, locals := 0 } : Room)) (Met.of (own := "com/example/quire/quire/catalogue/RecordNumberParsePinLaw") (nm := "dig") #[.val (.int u), .val (.int p)] (ew B) rfl rfl (plainFor_of_name pn_com_example_quire_quire_catalogue_RecordNumberParsePinLaw) (fun m => by first | (simp [entryFrame, mkF, argsToLocals, Value.category]; done) | rfl) fun K C => ?_) (B.1 _ (List.mem_of_getElem? (i := 6) rfl)) (B.1 _ (List.mem_of_getElem? (i := 5) rfl)) rfl rfl rfl rfl
  have hp0 : p ≠ 0 := fun e => by rw [e] at hp; exact absurd hp (by decide)
  have q := dg_chr (dg_i h0 hp)
  refine C.bipush (v := (48 : Int32)) d15_0 (by first | rfl | decide) ?_
  refine C.iloadN d15_2 rfl ?_
  refine C.iloadN d15_3 rfl ?_
  refine C.idiv (by assumption) d15_4 ?_
  refine C.bipush (v := (10 : Int32)) d15_5 (by first | rfl | decide) ?_
  refine C.irem (by decide) d15_7 ?_
  refine C.iadd d15_8 ?_
  refine C.i2c d15_9 ?_
  exact C.ireturn (t := .char) rfl (by simp) (nchar (by omega) (by omega)) d15_10 (by decide) (by decide) ⟨_, rfl, q.1, q.2, rfl⟩
set_option maxRecDepth 65536 in
set_option maxHeartbeats 40000000 in
theorem c_dc  (B : Base Z a0) {h : Heap} {u : Int32} (h0 : 0 ≤ u.toInt) : Con l Z a0 EL it n0 (⟨"com/example/quire/quire/catalogue/RecordNumberParsePinLaw", "digitCount", "(I)I"⟩ : MethodName) 1 12 0 0 #[.int u] h [] (fun v h' => ∃ r : Int32, v = some (.int r) ∧ (1 ≤ r.toInt ∧ r.toInt ≤ 10) ∧ u.toInt < 10 ^ r.toInt.toNat ∧ h = h') := by
  refine Met.con (bytes := method_3_code) (maxL := 1) (ret := (some .int)) (rm := ({ frames := 0, cells := 0, slots := 0, locals := 0 } : Room)) (Met.of (own := "com/example/quire/quire/catalogue/RecordNumberParsePinLaw") (nm := "digitCount") #[.val (.int u)] (ew B) rfl rfl (plainFor_of_name pn_com_example_quire_quire_catalogue_RecordNumberParsePinLaw) (fun m => by first | (simp [entryFrame, mkF, argsToLocals, Value.category]; done) | rfl) fun K C => ?_) (B.1 _ (List.mem_of_getElem? (i := 13) rfl)) (B.1 _ (List.mem_of_getElem? (i := 5) rfl)) rfl rfl rfl rfl
  have k10 : (10 : Int32).toInt = 10 := by decide
  have k100 : (100 : Int32).toInt = 100 := by decide
  have k1000 : (1000 : Int32).toInt = 1000 := by decide
  have k10000 : (10000 : Int32).toInt = 10000 := by decide
  have k100000 : (100000 : Int32).toInt = 100000 := by decide
  have k1000000 : (1000000 : Int32).toInt = 1000000 := by decide
  have k10000000 : (10000000 : Int32).toInt = 10000000 := by decide
  have k100000000 : (100000000 : Int32).toInt = 100000000 := by decide
  have k1000000000 : (1000000000 : Int32).toInt = 1000000000 := by decide
  have hu := Int32.toInt_lt u
  refine C.iloadN d16_0 rfl ?_
  refine C.ldcInt (v := (1000000000 : Int32)) (B.1 _ (List.mem_of_getElem? (i := 2) rfl)) d16_1 ?_
  refine C.icmp_lt 9 d16_3 (by decide) (by decide) (fun q1 => ?_) (fun q1 => ?_)
  · refine C.iloadN d16_9 rfl ?_
    refine C.ldcInt (v := (100000000 : Int32)) (B.1 _ (List.mem_of_getElem? (i := 7) rfl)) d16_10 ?_
    refine C.icmp_lt 18 d16_12 (by decide) (by decide) (fun q2 => ?_) (fun q2 => ?_)
    · refine C.iloadN d16_18 rfl ?_
      refine C.ldcInt (v := (10000000 : Int32)) (B.1 _ (List.mem_of_getElem? (i := 8) rfl)) d16_19 ?_
      refine C.icmp_lt 27 d16_21 (by decide) (by decide) (fun q3 => ?_) (fun q3 => ?_)
      · refine C.iloadN d16_27 rfl ?_
        refine C.ldcInt (v := (1000000 : Int32)) (B.1 _ (List.mem_of_getElem? (i := 9) rfl)) d16_28 ?_
        refine C.icmp_lt 36 d16_30 (by decide) (by decide) (fun q4 => ?_) (fun q4 => ?_)
        · refine C.iloadN d16_36 rfl ?_
          refine C.ldcInt (v := (100000 : Int32)) (B.1 _ (List.mem_of_getElem? (i := 10) rfl)) d16_37 ?_
          refine C.icmp_lt 45 d16_39 (by decide) (by decide) (fun q5 => ?_) (fun q5 => ?_)
          · refine C.iloadN d16_45 rfl ?_
            refine C.sipush (v := (10000 : Int32)) d16_46 (by first | rfl | decide) ?_
            refine C.icmp_lt 54 d16_49 (by decide) (by decide) (fun q6 => ?_) (fun q6 => ?_)
            · refine C.iloadN d16_54 rfl ?_
              refine C.sipush (v := (1000 : Int32)) d16_55 (by first | rfl | decide) ?_
              refine C.icmp_lt 63 d16_58 (by decide) (by decide) (fun q7 => ?_) (fun q7 => ?_)
              · refine C.iloadN d16_63 rfl ?_
                refine C.bipush (v := (100 : Int32)) d16_64 (by first | rfl | decide) ?_
                refine C.icmp_lt 71 d16_66 (by decide) (by decide) (fun q8 => ?_) (fun q8 => ?_)
                · refine C.iloadN d16_71 rfl ?_
                  refine C.bipush (v := (10 : Int32)) d16_72 (by first | rfl | decide) ?_
                  refine C.icmp_lt 79 d16_74 (by decide) (by decide) (fun q9 => ?_) (fun q9 => ?_)
                  · refine C.iconst (v := (1 : Int32)) d16_79 (by first | rfl | decide) ?_
                    exact C.ireturn (t := .int) rfl (by simp) rfl d16_80 (by decide) (by decide) ⟨_, rfl, by decide, by rw [show ((10 : Int) ^ (1 : Int32).toInt.toNat) = 10 by decide]; omega, rfl⟩
                  · refine C.iconst (v := (2 : Int32)) d16_77 (by first | rfl | decide) ?_
                    exact C.ireturn (t := .int) rfl (by simp) rfl d16_78 (by decide) (by decide) ⟨_, rfl, by decide, by rw [show ((10 : Int) ^ (2 : Int32).toInt.toNat) = 100 by decide]; omega, rfl⟩
                · refine C.iconst (v := (3 : Int32)) d16_69 (by first | rfl | decide) ?_
                  exact C.ireturn (t := .int) rfl (by simp) rfl d16_70 (by decide) (by decide) ⟨_, rfl, by decide, by rw [show ((10 : Int) ^ (3 : Int32).toInt.toNat) = 1000 by decide]; omega, rfl⟩
              · refine C.iconst (v := (4 : Int32)) d16_61 (by first | rfl | decide) ?_
                exact C.ireturn (t := .int) rfl (by simp) rfl d16_62 (by decide) (by decide) ⟨_, rfl, by decide, by rw [show ((10 : Int) ^ (4 : Int32).toInt.toNat) = 10000 by decide]; omega, rfl⟩
            · refine C.iconst (v := (5 : Int32)) d16_52 (by first | rfl | decide) ?_
              exact C.ireturn (t := .int) rfl (by simp) rfl d16_53 (by decide) (by decide) ⟨_, rfl, by decide, by rw [show ((10 : Int) ^ (5 : Int32).toInt.toNat) = 100000 by decide]; omega, rfl⟩
          · refine C.bipush (v := (6 : Int32)) d16_42 (by first | rfl | decide) ?_
            exact C.ireturn (t := .int) rfl (by simp) rfl d16_44 (by decide) (by decide) ⟨_, rfl, by decide, by rw [show ((10 : Int) ^ (6 : Int32).toInt.toNat) = 1000000 by decide]; omega, rfl⟩
        · refine C.bipush (v := (7 : Int32)) d16_33 (by first | rfl | decide) ?_
          exact C.ireturn (t := .int) rfl (by simp) rfl d16_35 (by decide) (by decide) ⟨_, rfl, by decide, by rw [show ((10 : Int) ^ (7 : Int32).toInt.toNat) = 10000000 by decide]; omega, rfl⟩
      · refine C.bipush (v := (8 : Int32)) d16_24 (by first | rfl | decide) ?_
        exact C.ireturn (t := .int) rfl (by simp) rfl d16_26 (by decide) (by decide) ⟨_, rfl, by decide, by rw [show ((10 : Int) ^ (8 : Int32).toInt.toNat) = 100000000 by decide]; omega, rfl⟩
    · refine C.bipush (v := (9 : Int32)) d16_15 (by first | rfl | decide) ?_
      exact C.ireturn (t := .int) rfl (by simp) rfl d16_17 (by decide) (by decide) ⟨_, rfl, by decide, by rw [show ((10 : Int) ^ (9 : Int32).toInt.toNat) = 1000000000 by decide]; omega, rfl⟩
  · refine C.bipush (v := (10 : Int32)) d16_6 (by first | rfl | decide) ?_
    exact C.ireturn (t := .int) rfl (by simp) rfl d16_8 (by decide) (by decide) ⟨_, rfl, by decide, by rw [show ((10 : Int) ^ (10 : Int32).toInt.toNat) = 10000000000 by decide]; omega, rfl⟩
set_option maxRecDepth 65536 in
set_option maxHeartbeats 40000000 in
theorem c_tail  (B : Base Z a0) {h : Heap} {a : Nat} {V : Int} {n c0 c1 c2 c3 c4 c5 c6 c7 c8 c9 c10 c11 : Int32} (Aa : Ary Z h a .char [.int c0, .int c1, .int c2, .int c3, .int c4, .int c5, .int c6, .int c7, .int c8, .int c9, .int c10, .int c11]) (hn : 1 ≤ n.toInt ∧ n.toInt ≤ 12) (g0 : 48 ≤ c0.toInt ∧ c0.toInt ≤ 57) (D0 : c0.toInt = 48 + V / 100000000000 % 10) (g1 : 48 ≤ c1.toInt ∧ c1.toInt ≤ 57) (D1 : c1.toInt = 48 + V / 10000000000 % 10) (g2 : 48 ≤ c2.toInt ∧ c2.toInt ≤ 57) (D2 : c2.toInt = 48 + V / 1000000000 % 10) (g3 : 48 ≤ c3.toInt ∧ c3.toInt ≤ 57) (D3 : c3.toInt = 48 + V / 100000000 % 10) (g4 : 48 ≤ c4.toInt ∧ c4.toInt ≤ 57) (D4 : c4.toInt = 48 + V / 10000000 % 10) (g5 : 48 ≤ c5.toInt ∧ c5.toInt ≤ 57) (D5 : c5.toInt = 48 + V / 1000000 % 10) (g6 : 48 ≤ c6.toInt ∧ c6.toInt ≤ 57) (D6 : c6.toInt = 48 + V / 100000 % 10) (g7 : 48 ≤ c7.toInt ∧ c7.toInt ≤ 57) (D7 : c7.toInt = 48 + V / 10000 % 10) (g8 : 48 ≤ c8.toInt ∧ c8.toInt ≤ 57) (D8 : c8.toInt = 48 + V / 1000 % 10) (g9 : 48 ≤ c9.toInt ∧ c9.toInt ≤ 57) (D9 : c9.toInt = 48 + V / 100 % 10) (g10 : 48 ≤ c10.toInt ∧ c10.toInt ≤ 57) (D10 : c10.toInt = 48 + V / 10 % 10) (g11 : 48 ≤ c11.toInt ∧ c11.toInt ≤ 57) (D11 : c11.toInt = 48 + V / 1 % 10) : Con l Z a0 EL it n0 (⟨"com/example/quire/quire/catalogue/RecordNumberParsePinLaw", "tail", "([CI)Ljava/lang/String;"⟩ : MethodName) 5 79 3 27 #[.ref a, .int n] h [] (fun v h' => ∃ (x : Nat) (cs : List Int32), v = some (.ref x) ∧ Str Z h' h'.size x cs ∧ (cs.length : Int) = n.toInt ∧ (∀ c ∈ cs, 48 ≤ c.toInt ∧ c.toInt ≤ 57) ∧ dv 0 cs = V % 10 ^ n.toInt.toNat) := by
  refine Met.con (bytes := method_4_code) (maxL := 2) (ret := (some (.object "java/lang/String"))) (rm := ({ frames := 4, cells := 3, slots := 27, locals := 66 } : Room)) (Met.of (own := "com/example/quire/quire/catalogue/RecordNumberParsePinLaw") (nm := "tail") #[.val (.ref a), .val (.int n)] (ew B) rfl rfl (plainFor_of_name pn_com_example_quire_quire_catalogue_RecordNumberParsePinLaw) (fun m => by first | (simp [entryFrame, mkF, argsToLocals, Value.category]; done) | rfl) fun K C => ?_) (B.1 _ (List.mem_of_getElem? (i := 16) rfl)) (B.1 _ (List.mem_of_getElem? (i := 5) rfl)) rfl rfl rfl rfl
  have E0 : Dg V 100000000000 c0 := D0
  have E1 : Dg V 10000000000 c1 := D1
  have E2 : Dg V 1000000000 c2 := D2
  have E3 : Dg V 100000000 c3 := D3
  have E4 : Dg V 10000000 c4 := D4
  have E5 : Dg V 1000000 c5 := D5
  have E6 : Dg V 100000 c6 := D6
  have E7 : Dg V 10000 c7 := D7
  have E8 : Dg V 1000 c8 := D8
  have E9 : Dg V 100 c9 := D9
  have E10 : Dg V 10 c10 := D10
  have E11 : Dg V 1 c11 := D11
  clear D0 D1 D2 D3 D4 D5 D6 D7 D8 D9 D10 D11
  have lA := Aa.lt
  have k0 : (0 : Int32).toInt = 0 := by decide
  have k1 : (1 : Int32).toInt = 1 := by decide
  have k2 : (2 : Int32).toInt = 2 := by decide
  have k3 : (3 : Int32).toInt = 3 := by decide
  have k4 : (4 : Int32).toInt = 4 := by decide
  have k5 : (5 : Int32).toInt = 5 := by decide
  have k6 : (6 : Int32).toInt = 6 := by decide
  have k7 : (7 : Int32).toInt = 7 := by decide
  have k8 : (8 : Int32).toInt = 8 := by decide
  have k9 : (9 : Int32).toInt = 9 := by decide
  have k10 : (10 : Int32).toInt = 10 := by decide
  have k11 : (11 : Int32).toInt = 11 := by decide
  have k12 : (12 : Int32).toInt = 12 := by decide
  refine C.iloadN d17_0 rfl ?_
  refine C.iconst (v := (1 : Int32)) d17_1 (by first | rfl | decide) ?_
  refine C.icmp_ne 23 d17_2 (by decide) (by decide) (fun q1 => ?_) (fun q1 => ?_)
  · refine C.iloadN d17_23 rfl ?_
    refine C.iconst (v := (2 : Int32)) d17_24 (by first | rfl | decide) ?_
    refine C.icmp_ne 53 d17_25 (by decide) (by decide) (fun q2 => ?_) (fun q2 => ?_)
    · refine C.iloadN d17_53 rfl ?_
      refine C.iconst (v := (3 : Int32)) d17_54 (by first | rfl | decide) ?_
      refine C.icmp_ne 90 d17_55 (by decide) (by decide) (fun q3 => ?_) (fun q3 => ?_)
      · refine C.iloadN d17_90 rfl ?_
        refine C.iconst (v := (4 : Int32)) d17_91 (by first | rfl | decide) ?_
        refine C.icmp_ne 134 d17_92 (by decide) (by decide) (fun q4 => ?_) (fun q4 => ?_)
        · refine C.iloadN d17_134 rfl ?_
          refine C.iconst (v := (5 : Int32)) d17_135 (by first | rfl | decide) ?_
          refine C.icmp_ne 185 d17_136 (by decide) (by decide) (fun q5 => ?_) (fun q5 => ?_)
          · refine C.iloadN d17_185 rfl ?_
            refine C.bipush (v := (6 : Int32)) d17_186 (by first | rfl | decide) ?_
            refine C.icmp_ne 245 d17_188 (by decide) (by decide) (fun q6 => ?_) (fun q6 => ?_)
            · refine C.iloadN d17_245 rfl ?_
              refine C.bipush (v := (7 : Int32)) d17_246 (by first | rfl | decide) ?_
              refine C.icmp_ne 312 d17_248 (by decide) (by decide) (fun q7 => ?_) (fun q7 => ?_)
              · refine C.iloadN d17_312 rfl ?_
                refine C.bipush (v := (8 : Int32)) d17_313 (by first | rfl | decide) ?_
                refine C.icmp_ne 386 d17_315 (by decide) (by decide) (fun q8 => ?_) (fun q8 => ?_)
                · refine C.iloadN d17_386 rfl ?_
                  refine C.bipush (v := (9 : Int32)) d17_387 (by first | rfl | decide) ?_
                  refine C.icmp_ne 467 d17_389 (by decide) (by decide) (fun q9 => ?_) (fun q9 => ?_)
                  · refine C.iloadN d17_467 rfl ?_
                    refine C.bipush (v := (10 : Int32)) d17_468 (by first | rfl | decide) ?_
                    refine C.icmp_ne 555 d17_470 (by decide) (by decide) (fun q10 => ?_) (fun q10 => ?_)
                    · refine C.iloadN d17_555 rfl ?_
                      refine C.bipush (v := (11 : Int32)) d17_556 (by first | rfl | decide) ?_
                      refine C.icmp_ne 650 d17_558 (by decide) (by decide) (fun q11 => ?_) (fun q11 => ?_)
                      · have cn : n.toInt = 12 := by omega
                        refine C.new (B.1 _ (List.mem_of_getElem? (i := 17) rfl)) (B.1 _ (List.mem_of_getElem? (i := 18) rfl)) (B.1 _ (List.mem_of_getElem? (i := 19) rfl)) d17_650 (by decide) (by decide) fun h12 a13 g12 z12 o12 K12 En12 Dn12 => ?_
                        show C.W h12 [a13] 1 4 (mkF K.m 653 #[.val (.ref a), .val (.int n)] [.ref a13])
                        have Fv : Fld Z h12 a13 "java/lang/String" "value" "[B" (.null) := Dn12 (Or.inr (B.1 _ (List.mem_of_getElem? (i := 45) rfl))) (ty := (.array .byte)) (by decide)
                        have Fc : Fld Z h12 a13 "java/lang/String" "coder" "B" (.int 0) := Dn12 (Or.inr (B.1 _ (List.mem_of_getElem? (i := 43) rfl))) (ty := .byte) (by decide)
                        refine C.dup rfl d17_653 ?_
                        refine C.aloadN d17_654 rfl rfl ?_
                        have hdg : ∀ c ∈ ([c0, c1, c2, c3, c4, c5, c6, c7, c8, c9, c10, c11] : List Int32), 48 ≤ c.toInt ∧ c.toInt ≤ 57 := by
                          intro c hc
                          simp only [List.mem_cons, List.not_mem_nil, or_false] at hc
                          rcases hc with rfl | rfl | rfl | rfl | rfl | rfl | rfl | rfl | rfl | rfl | rfl | rfl <;> assumption
                        have Aa_14 := (Aa.keep K12 nin0)
                        refine C.callN a13 [.ref a] [.ref a13] 1 (B.1 _ (List.mem_of_getElem? (i := 20) rfl)) (B.1 _ (List.mem_of_getElem? (i := 21) rfl)) (B.1 _ (List.mem_of_getElem? (i := 22) rfl)) rfl (by decide) pd__28__5b_C_29_V rfl id (c_init1 B (cs := [c0, c1, c2, c3, c4, c5, c6, c7, c8, c9, c10, c11]) En12 Fv Fc Aa_14 (Nat.le_of_ble_eq_true rfl) (fun c hc => by have := hdg c hc; omega) (Nat.le_of_ble_eq_true rfl)) d17_655 rfl rfl rfl (by decide) (by decide) (by decide) (by decide) (allS (List.mem_of_getElem? (i := 0) rfl) all0) fun v15 h15 z15 K15 q15 => ?_
                        obtain ⟨rfl, S15⟩ := q15
                        show C.W h15 [a13] 2 16 (mkF K.m 658 #[.val (.ref a), .val (.int n)] [.ref a13])
                        exact C.areturn rfl rfl rfl d17_658 (by decide) (by decide) ⟨a13, [c0, c1, c2, c3, c4, c5, c6, c7, c8, c9, c10, c11], rfl, S15, by rw [cn]; rfl, hdg, by rw [cn, show ((10 : Int) ^ (12 : Int).toNat) = 1000000000000 by decide]; exact dig12 E0 E1 E2 E3 E4 E5 E6 E7 E8 E9 E10 E11⟩
                      · have cn : n.toInt = 11 := by omega
                        refine C.new (B.1 _ (List.mem_of_getElem? (i := 17) rfl)) (B.1 _ (List.mem_of_getElem? (i := 18) rfl)) (B.1 _ (List.mem_of_getElem? (i := 19) rfl)) d17_561 (by decide) (by decide) fun h16 a17 g16 z16 o16 K16 En16 Dn16 => ?_
                        show C.W h16 [a17] 1 4 (mkF K.m 564 #[.val (.ref a), .val (.int n)] [.ref a17])
                        have Fv : Fld Z h16 a17 "java/lang/String" "value" "[B" (.null) := Dn16 (Or.inr (B.1 _ (List.mem_of_getElem? (i := 45) rfl))) (ty := (.array .byte)) (by decide)
                        have Fc : Fld Z h16 a17 "java/lang/String" "coder" "B" (.int 0) := Dn16 (Or.inr (B.1 _ (List.mem_of_getElem? (i := 43) rfl))) (ty := .byte) (by decide)
                        refine C.dup rfl d17_564 ?_
                        refine C.bipush (v := (11 : Int32)) d17_565 (by first | rfl | decide) ?_
                        refine C.newarr 11 11 (B.1 _ (List.mem_of_getElem? (i := 1) rfl)) d17_567 (by first | rfl | decide) (by decide) (by decide) (by decide) (by decide) fun h18 a19 g18 z18 o18 K18 An18 => ?_
                        have An18 : Ary Z h18 a19 .char [.int 0, .int 0, .int 0, .int 0, .int 0, .int 0, .int 0, .int 0, .int 0, .int 0, .int 0] := An18
                        show C.W h18 [a19, a17] 2 15 (mkF K.m 569 #[.val (.ref a), .val (.int n)] [.ref a19, .ref a17, .ref a17])
                        refine C.dup rfl d17_569 ?_
                        refine C.iconst (v := (0 : Int32)) d17_570 (by first | rfl | decide) ?_
                        refine C.aloadN d17_571 rfl rfl ?_
                        refine C.iconst (v := (1 : Int32)) d17_572 (by first | rfl | decide) ?_
                        have Aa_20 := ((Aa.keep K16 nin0).keep K18 nin0)
                        refine C.caload (x := c1) 1 Aa_20 (by first | rfl | decide) rfl d17_573 ?_
                        refine C.castore 0 An18 (by first | rfl | decide) (Nat.le_of_ble_eq_true rfl) (by omega) (by omega) d17_574 (List.mem_of_getElem? (i := 0) rfl) fun h21 z21 K21 Aw21 => ?_
                        have Aw21 : Ary Z h21 a19 .char [.int c1, .int 0, .int 0, .int 0, .int 0, .int 0, .int 0, .int 0, .int 0, .int 0, .int 0] := Aw21
                        show C.W h21 [a19, a17] 2 15 (mkF K.m 575 #[.val (.ref a), .val (.int n)] [.ref a19, .ref a17, .ref a17])
                        refine C.dup rfl d17_575 ?_
                        refine C.iconst (v := (1 : Int32)) d17_576 (by first | rfl | decide) ?_
                        refine C.aloadN d17_577 rfl rfl ?_
                        refine C.iconst (v := (2 : Int32)) d17_578 (by first | rfl | decide) ?_
                        have Aa_22 := (Aa_20.keep K21 (ninS (neA (by omega)) nin0))
                        refine C.caload (x := c2) 2 Aa_22 (by first | rfl | decide) rfl d17_579 ?_
                        refine C.castore 1 Aw21 (by first | rfl | decide) (Nat.le_of_ble_eq_true rfl) (by omega) (by omega) d17_580 (List.mem_of_getElem? (i := 0) rfl) fun h23 z23 K23 Aw23 => ?_
                        have Aw23 : Ary Z h23 a19 .char [.int c1, .int c2, .int 0, .int 0, .int 0, .int 0, .int 0, .int 0, .int 0, .int 0, .int 0] := Aw23
                        show C.W h23 [a19, a17] 2 15 (mkF K.m 581 #[.val (.ref a), .val (.int n)] [.ref a19, .ref a17, .ref a17])
                        refine C.dup rfl d17_581 ?_
                        refine C.iconst (v := (2 : Int32)) d17_582 (by first | rfl | decide) ?_
                        refine C.aloadN d17_583 rfl rfl ?_
                        refine C.iconst (v := (3 : Int32)) d17_584 (by first | rfl | decide) ?_
                        have Aa_24 := (Aa_22.keep K23 (ninS (neA (by omega)) nin0))
                        refine C.caload (x := c3) 3 Aa_24 (by first | rfl | decide) rfl d17_585 ?_
                        refine C.castore 2 Aw23 (by first | rfl | decide) (Nat.le_of_ble_eq_true rfl) (by omega) (by omega) d17_586 (List.mem_of_getElem? (i := 0) rfl) fun h25 z25 K25 Aw25 => ?_
                        have Aw25 : Ary Z h25 a19 .char [.int c1, .int c2, .int c3, .int 0, .int 0, .int 0, .int 0, .int 0, .int 0, .int 0, .int 0] := Aw25
                        show C.W h25 [a19, a17] 2 15 (mkF K.m 587 #[.val (.ref a), .val (.int n)] [.ref a19, .ref a17, .ref a17])
                        refine C.dup rfl d17_587 ?_
                        refine C.iconst (v := (3 : Int32)) d17_588 (by first | rfl | decide) ?_
                        refine C.aloadN d17_589 rfl rfl ?_
                        refine C.iconst (v := (4 : Int32)) d17_590 (by first | rfl | decide) ?_
                        have Aa_26 := (Aa_24.keep K25 (ninS (neA (by omega)) nin0))
                        refine C.caload (x := c4) 4 Aa_26 (by first | rfl | decide) rfl d17_591 ?_
                        refine C.castore 3 Aw25 (by first | rfl | decide) (Nat.le_of_ble_eq_true rfl) (by omega) (by omega) d17_592 (List.mem_of_getElem? (i := 0) rfl) fun h27 z27 K27 Aw27 => ?_
                        have Aw27 : Ary Z h27 a19 .char [.int c1, .int c2, .int c3, .int c4, .int 0, .int 0, .int 0, .int 0, .int 0, .int 0, .int 0] := Aw27
                        show C.W h27 [a19, a17] 2 15 (mkF K.m 593 #[.val (.ref a), .val (.int n)] [.ref a19, .ref a17, .ref a17])
                        refine C.dup rfl d17_593 ?_
                        refine C.iconst (v := (4 : Int32)) d17_594 (by first | rfl | decide) ?_
                        refine C.aloadN d17_595 rfl rfl ?_
                        refine C.iconst (v := (5 : Int32)) d17_596 (by first | rfl | decide) ?_
                        have Aa_28 := (Aa_26.keep K27 (ninS (neA (by omega)) nin0))
                        refine C.caload (x := c5) 5 Aa_28 (by first | rfl | decide) rfl d17_597 ?_
                        refine C.castore 4 Aw27 (by first | rfl | decide) (Nat.le_of_ble_eq_true rfl) (by omega) (by omega) d17_598 (List.mem_of_getElem? (i := 0) rfl) fun h29 z29 K29 Aw29 => ?_
                        have Aw29 : Ary Z h29 a19 .char [.int c1, .int c2, .int c3, .int c4, .int c5, .int 0, .int 0, .int 0, .int 0, .int 0, .int 0] := Aw29
                        show C.W h29 [a19, a17] 2 15 (mkF K.m 599 #[.val (.ref a), .val (.int n)] [.ref a19, .ref a17, .ref a17])
                        refine C.dup rfl d17_599 ?_
                        refine C.iconst (v := (5 : Int32)) d17_600 (by first | rfl | decide) ?_
                        refine C.aloadN d17_601 rfl rfl ?_
                        refine C.bipush (v := (6 : Int32)) d17_602 (by first | rfl | decide) ?_
                        have Aa_30 := (Aa_28.keep K29 (ninS (neA (by omega)) nin0))
                        refine C.caload (x := c6) 6 Aa_30 (by first | rfl | decide) rfl d17_604 ?_
                        refine C.castore 5 Aw29 (by first | rfl | decide) (Nat.le_of_ble_eq_true rfl) (by omega) (by omega) d17_605 (List.mem_of_getElem? (i := 0) rfl) fun h31 z31 K31 Aw31 => ?_
                        have Aw31 : Ary Z h31 a19 .char [.int c1, .int c2, .int c3, .int c4, .int c5, .int c6, .int 0, .int 0, .int 0, .int 0, .int 0] := Aw31
                        show C.W h31 [a19, a17] 2 15 (mkF K.m 606 #[.val (.ref a), .val (.int n)] [.ref a19, .ref a17, .ref a17])
                        refine C.dup rfl d17_606 ?_
                        refine C.bipush (v := (6 : Int32)) d17_607 (by first | rfl | decide) ?_
                        refine C.aloadN d17_609 rfl rfl ?_
                        refine C.bipush (v := (7 : Int32)) d17_610 (by first | rfl | decide) ?_
                        have Aa_32 := (Aa_30.keep K31 (ninS (neA (by omega)) nin0))
                        refine C.caload (x := c7) 7 Aa_32 (by first | rfl | decide) rfl d17_612 ?_
                        refine C.castore 6 Aw31 (by first | rfl | decide) (Nat.le_of_ble_eq_true rfl) (by omega) (by omega) d17_613 (List.mem_of_getElem? (i := 0) rfl) fun h33 z33 K33 Aw33 => ?_
                        have Aw33 : Ary Z h33 a19 .char [.int c1, .int c2, .int c3, .int c4, .int c5, .int c6, .int c7, .int 0, .int 0, .int 0, .int 0] := Aw33
                        show C.W h33 [a19, a17] 2 15 (mkF K.m 614 #[.val (.ref a), .val (.int n)] [.ref a19, .ref a17, .ref a17])
                        refine C.dup rfl d17_614 ?_
                        refine C.bipush (v := (7 : Int32)) d17_615 (by first | rfl | decide) ?_
                        refine C.aloadN d17_617 rfl rfl ?_
                        refine C.bipush (v := (8 : Int32)) d17_618 (by first | rfl | decide) ?_
                        have Aa_34 := (Aa_32.keep K33 (ninS (neA (by omega)) nin0))
                        refine C.caload (x := c8) 8 Aa_34 (by first | rfl | decide) rfl d17_620 ?_
                        refine C.castore 7 Aw33 (by first | rfl | decide) (Nat.le_of_ble_eq_true rfl) (by omega) (by omega) d17_621 (List.mem_of_getElem? (i := 0) rfl) fun h35 z35 K35 Aw35 => ?_
                        have Aw35 : Ary Z h35 a19 .char [.int c1, .int c2, .int c3, .int c4, .int c5, .int c6, .int c7, .int c8, .int 0, .int 0, .int 0] := Aw35
                        show C.W h35 [a19, a17] 2 15 (mkF K.m 622 #[.val (.ref a), .val (.int n)] [.ref a19, .ref a17, .ref a17])
                        refine C.dup rfl d17_622 ?_
                        refine C.bipush (v := (8 : Int32)) d17_623 (by first | rfl | decide) ?_
                        refine C.aloadN d17_625 rfl rfl ?_
                        refine C.bipush (v := (9 : Int32)) d17_626 (by first | rfl | decide) ?_
                        have Aa_36 := (Aa_34.keep K35 (ninS (neA (by omega)) nin0))
                        refine C.caload (x := c9) 9 Aa_36 (by first | rfl | decide) rfl d17_628 ?_
                        refine C.castore 8 Aw35 (by first | rfl | decide) (Nat.le_of_ble_eq_true rfl) (by omega) (by omega) d17_629 (List.mem_of_getElem? (i := 0) rfl) fun h37 z37 K37 Aw37 => ?_
                        have Aw37 : Ary Z h37 a19 .char [.int c1, .int c2, .int c3, .int c4, .int c5, .int c6, .int c7, .int c8, .int c9, .int 0, .int 0] := Aw37
                        show C.W h37 [a19, a17] 2 15 (mkF K.m 630 #[.val (.ref a), .val (.int n)] [.ref a19, .ref a17, .ref a17])
                        refine C.dup rfl d17_630 ?_
                        refine C.bipush (v := (9 : Int32)) d17_631 (by first | rfl | decide) ?_
                        refine C.aloadN d17_633 rfl rfl ?_
                        refine C.bipush (v := (10 : Int32)) d17_634 (by first | rfl | decide) ?_
                        have Aa_38 := (Aa_36.keep K37 (ninS (neA (by omega)) nin0))
                        refine C.caload (x := c10) 10 Aa_38 (by first | rfl | decide) rfl d17_636 ?_
                        refine C.castore 9 Aw37 (by first | rfl | decide) (Nat.le_of_ble_eq_true rfl) (by omega) (by omega) d17_637 (List.mem_of_getElem? (i := 0) rfl) fun h39 z39 K39 Aw39 => ?_
                        have Aw39 : Ary Z h39 a19 .char [.int c1, .int c2, .int c3, .int c4, .int c5, .int c6, .int c7, .int c8, .int c9, .int c10, .int 0] := Aw39
                        show C.W h39 [a19, a17] 2 15 (mkF K.m 638 #[.val (.ref a), .val (.int n)] [.ref a19, .ref a17, .ref a17])
                        refine C.dup rfl d17_638 ?_
                        refine C.bipush (v := (10 : Int32)) d17_639 (by first | rfl | decide) ?_
                        refine C.aloadN d17_641 rfl rfl ?_
                        refine C.bipush (v := (11 : Int32)) d17_642 (by first | rfl | decide) ?_
                        have Aa_40 := (Aa_38.keep K39 (ninS (neA (by omega)) nin0))
                        refine C.caload (x := c11) 11 Aa_40 (by first | rfl | decide) rfl d17_644 ?_
                        refine C.castore 10 Aw39 (by first | rfl | decide) (Nat.le_of_ble_eq_true rfl) (by omega) (by omega) d17_645 (List.mem_of_getElem? (i := 0) rfl) fun h41 z41 K41 Aw41 => ?_
                        have Aw41 : Ary Z h41 a19 .char [.int c1, .int c2, .int c3, .int c4, .int c5, .int c6, .int c7, .int c8, .int c9, .int c10, .int c11] := Aw41
                        show C.W h41 [a19, a17] 2 15 (mkF K.m 646 #[.val (.ref a), .val (.int n)] [.ref a19, .ref a17, .ref a17])
                        have hdg : ∀ c ∈ ([c1, c2, c3, c4, c5, c6, c7, c8, c9, c10, c11] : List Int32), 48 ≤ c.toInt ∧ c.toInt ≤ 57 := by
                          intro c hc
                          simp only [List.mem_cons, List.not_mem_nil, or_false] at hc
                          rcases hc with rfl | rfl | rfl | rfl | rfl | rfl | rfl | rfl | rfl | rfl | rfl <;> assumption
                        have En16_42 := ((((((((((((En16.keep K18).keep K21).keep K23).keep K25).keep K27).keep K29).keep K31).keep K33).keep K35).keep K37).keep K39).keep K41)
                        have Fv_43 := ((((((((((((Fv.keep K18 nin0).keep K21 (ninS (neA (by omega)) nin0)).keep K23 (ninS (neA (by omega)) nin0)).keep K25 (ninS (neA (by omega)) nin0)).keep K27 (ninS (neA (by omega)) nin0)).keep K29 (ninS (neA (by omega)) nin0)).keep K31 (ninS (neA (by omega)) nin0)).keep K33 (ninS (neA (by omega)) nin0)).keep K35 (ninS (neA (by omega)) nin0)).keep K37 (ninS (neA (by omega)) nin0)).keep K39 (ninS (neA (by omega)) nin0)).keep K41 (ninS (neA (by omega)) nin0))
                        have Fc_44 := ((((((((((((Fc.keep K18 nin0).keep K21 (ninS (neA (by omega)) nin0)).keep K23 (ninS (neA (by omega)) nin0)).keep K25 (ninS (neA (by omega)) nin0)).keep K27 (ninS (neA (by omega)) nin0)).keep K29 (ninS (neA (by omega)) nin0)).keep K31 (ninS (neA (by omega)) nin0)).keep K33 (ninS (neA (by omega)) nin0)).keep K35 (ninS (neA (by omega)) nin0)).keep K37 (ninS (neA (by omega)) nin0)).keep K39 (ninS (neA (by omega)) nin0)).keep K41 (ninS (neA (by omega)) nin0))
                        refine C.callN a17 [.ref a19] [.ref a17] 1 (B.1 _ (List.mem_of_getElem? (i := 20) rfl)) (B.1 _ (List.mem_of_getElem? (i := 21) rfl)) (B.1 _ (List.mem_of_getElem? (i := 22) rfl)) rfl (by decide) pd__28__5b_C_29_V rfl id (c_init1 B (cs := [c1, c2, c3, c4, c5, c6, c7, c8, c9, c10, c11]) En16_42 Fv_43 Fc_44 Aw41 (Nat.le_of_ble_eq_true rfl) (fun c hc => by have := hdg c hc; omega) (Nat.le_of_ble_eq_true rfl)) d17_646 rfl rfl rfl (by decide) (by decide) (by decide) (by decide) (allS (List.mem_of_getElem? (i := 1) rfl) all0) fun v45 h45 z45 K45 q45 => ?_
                        obtain ⟨rfl, S45⟩ := q45
                        show C.W h45 [a19, a17] 3 27 (mkF K.m 649 #[.val (.ref a), .val (.int n)] [.ref a17])
                        exact C.areturn rfl rfl rfl d17_649 (by decide) (by decide) ⟨a17, [c1, c2, c3, c4, c5, c6, c7, c8, c9, c10, c11], rfl, S45, by rw [cn]; rfl, hdg, by rw [cn, show ((10 : Int) ^ (11 : Int).toNat) = 100000000000 by decide]; exact dig11 E1 E2 E3 E4 E5 E6 E7 E8 E9 E10 E11⟩
                    · have cn : n.toInt = 10 := by omega
                      refine C.new (B.1 _ (List.mem_of_getElem? (i := 17) rfl)) (B.1 _ (List.mem_of_getElem? (i := 18) rfl)) (B.1 _ (List.mem_of_getElem? (i := 19) rfl)) d17_473 (by decide) (by decide) fun h46 a47 g46 z46 o46 K46 En46 Dn46 => ?_
                      show C.W h46 [a47] 1 4 (mkF K.m 476 #[.val (.ref a), .val (.int n)] [.ref a47])
                      have Fv : Fld Z h46 a47 "java/lang/String" "value" "[B" (.null) := Dn46 (Or.inr (B.1 _ (List.mem_of_getElem? (i := 45) rfl))) (ty := (.array .byte)) (by decide)
                      have Fc : Fld Z h46 a47 "java/lang/String" "coder" "B" (.int 0) := Dn46 (Or.inr (B.1 _ (List.mem_of_getElem? (i := 43) rfl))) (ty := .byte) (by decide)
                      refine C.dup rfl d17_476 ?_
                      refine C.bipush (v := (10 : Int32)) d17_477 (by first | rfl | decide) ?_
                      refine C.newarr 10 10 (B.1 _ (List.mem_of_getElem? (i := 1) rfl)) d17_479 (by first | rfl | decide) (by decide) (by decide) (by decide) (by decide) fun h48 a49 g48 z48 o48 K48 An48 => ?_
                      have An48 : Ary Z h48 a49 .char [.int 0, .int 0, .int 0, .int 0, .int 0, .int 0, .int 0, .int 0, .int 0, .int 0] := An48
                      show C.W h48 [a49, a47] 2 14 (mkF K.m 481 #[.val (.ref a), .val (.int n)] [.ref a49, .ref a47, .ref a47])
                      refine C.dup rfl d17_481 ?_
                      refine C.iconst (v := (0 : Int32)) d17_482 (by first | rfl | decide) ?_
                      refine C.aloadN d17_483 rfl rfl ?_
                      refine C.iconst (v := (2 : Int32)) d17_484 (by first | rfl | decide) ?_
                      have Aa_50 := ((Aa.keep K46 nin0).keep K48 nin0)
                      refine C.caload (x := c2) 2 Aa_50 (by first | rfl | decide) rfl d17_485 ?_
                      refine C.castore 0 An48 (by first | rfl | decide) (Nat.le_of_ble_eq_true rfl) (by omega) (by omega) d17_486 (List.mem_of_getElem? (i := 0) rfl) fun h51 z51 K51 Aw51 => ?_
                      have Aw51 : Ary Z h51 a49 .char [.int c2, .int 0, .int 0, .int 0, .int 0, .int 0, .int 0, .int 0, .int 0, .int 0] := Aw51
                      show C.W h51 [a49, a47] 2 14 (mkF K.m 487 #[.val (.ref a), .val (.int n)] [.ref a49, .ref a47, .ref a47])
                      refine C.dup rfl d17_487 ?_
                      refine C.iconst (v := (1 : Int32)) d17_488 (by first | rfl | decide) ?_
                      refine C.aloadN d17_489 rfl rfl ?_
                      refine C.iconst (v := (3 : Int32)) d17_490 (by first | rfl | decide) ?_
                      have Aa_52 := (Aa_50.keep K51 (ninS (neA (by omega)) nin0))
                      refine C.caload (x := c3) 3 Aa_52 (by first | rfl | decide) rfl d17_491 ?_
                      refine C.castore 1 Aw51 (by first | rfl | decide) (Nat.le_of_ble_eq_true rfl) (by omega) (by omega) d17_492 (List.mem_of_getElem? (i := 0) rfl) fun h53 z53 K53 Aw53 => ?_
                      have Aw53 : Ary Z h53 a49 .char [.int c2, .int c3, .int 0, .int 0, .int 0, .int 0, .int 0, .int 0, .int 0, .int 0] := Aw53
                      show C.W h53 [a49, a47] 2 14 (mkF K.m 493 #[.val (.ref a), .val (.int n)] [.ref a49, .ref a47, .ref a47])
                      refine C.dup rfl d17_493 ?_
                      refine C.iconst (v := (2 : Int32)) d17_494 (by first | rfl | decide) ?_
                      refine C.aloadN d17_495 rfl rfl ?_
                      refine C.iconst (v := (4 : Int32)) d17_496 (by first | rfl | decide) ?_
                      have Aa_54 := (Aa_52.keep K53 (ninS (neA (by omega)) nin0))
                      refine C.caload (x := c4) 4 Aa_54 (by first | rfl | decide) rfl d17_497 ?_
                      refine C.castore 2 Aw53 (by first | rfl | decide) (Nat.le_of_ble_eq_true rfl) (by omega) (by omega) d17_498 (List.mem_of_getElem? (i := 0) rfl) fun h55 z55 K55 Aw55 => ?_
                      have Aw55 : Ary Z h55 a49 .char [.int c2, .int c3, .int c4, .int 0, .int 0, .int 0, .int 0, .int 0, .int 0, .int 0] := Aw55
                      show C.W h55 [a49, a47] 2 14 (mkF K.m 499 #[.val (.ref a), .val (.int n)] [.ref a49, .ref a47, .ref a47])
                      refine C.dup rfl d17_499 ?_
                      refine C.iconst (v := (3 : Int32)) d17_500 (by first | rfl | decide) ?_
                      refine C.aloadN d17_501 rfl rfl ?_
                      refine C.iconst (v := (5 : Int32)) d17_502 (by first | rfl | decide) ?_
                      have Aa_56 := (Aa_54.keep K55 (ninS (neA (by omega)) nin0))
                      refine C.caload (x := c5) 5 Aa_56 (by first | rfl | decide) rfl d17_503 ?_
                      refine C.castore 3 Aw55 (by first | rfl | decide) (Nat.le_of_ble_eq_true rfl) (by omega) (by omega) d17_504 (List.mem_of_getElem? (i := 0) rfl) fun h57 z57 K57 Aw57 => ?_
                      have Aw57 : Ary Z h57 a49 .char [.int c2, .int c3, .int c4, .int c5, .int 0, .int 0, .int 0, .int 0, .int 0, .int 0] := Aw57
                      show C.W h57 [a49, a47] 2 14 (mkF K.m 505 #[.val (.ref a), .val (.int n)] [.ref a49, .ref a47, .ref a47])
                      refine C.dup rfl d17_505 ?_
                      refine C.iconst (v := (4 : Int32)) d17_506 (by first | rfl | decide) ?_
                      refine C.aloadN d17_507 rfl rfl ?_
                      refine C.bipush (v := (6 : Int32)) d17_508 (by first | rfl | decide) ?_
                      have Aa_58 := (Aa_56.keep K57 (ninS (neA (by omega)) nin0))
                      refine C.caload (x := c6) 6 Aa_58 (by first | rfl | decide) rfl d17_510 ?_
                      refine C.castore 4 Aw57 (by first | rfl | decide) (Nat.le_of_ble_eq_true rfl) (by omega) (by omega) d17_511 (List.mem_of_getElem? (i := 0) rfl) fun h59 z59 K59 Aw59 => ?_
                      have Aw59 : Ary Z h59 a49 .char [.int c2, .int c3, .int c4, .int c5, .int c6, .int 0, .int 0, .int 0, .int 0, .int 0] := Aw59
                      show C.W h59 [a49, a47] 2 14 (mkF K.m 512 #[.val (.ref a), .val (.int n)] [.ref a49, .ref a47, .ref a47])
                      refine C.dup rfl d17_512 ?_
                      refine C.iconst (v := (5 : Int32)) d17_513 (by first | rfl | decide) ?_
                      refine C.aloadN d17_514 rfl rfl ?_
                      refine C.bipush (v := (7 : Int32)) d17_515 (by first | rfl | decide) ?_
                      have Aa_60 := (Aa_58.keep K59 (ninS (neA (by omega)) nin0))
                      refine C.caload (x := c7) 7 Aa_60 (by first | rfl | decide) rfl d17_517 ?_
                      refine C.castore 5 Aw59 (by first | rfl | decide) (Nat.le_of_ble_eq_true rfl) (by omega) (by omega) d17_518 (List.mem_of_getElem? (i := 0) rfl) fun h61 z61 K61 Aw61 => ?_
                      have Aw61 : Ary Z h61 a49 .char [.int c2, .int c3, .int c4, .int c5, .int c6, .int c7, .int 0, .int 0, .int 0, .int 0] := Aw61
                      show C.W h61 [a49, a47] 2 14 (mkF K.m 519 #[.val (.ref a), .val (.int n)] [.ref a49, .ref a47, .ref a47])
                      refine C.dup rfl d17_519 ?_
                      refine C.bipush (v := (6 : Int32)) d17_520 (by first | rfl | decide) ?_
                      refine C.aloadN d17_522 rfl rfl ?_
                      refine C.bipush (v := (8 : Int32)) d17_523 (by first | rfl | decide) ?_
                      have Aa_62 := (Aa_60.keep K61 (ninS (neA (by omega)) nin0))
                      refine C.caload (x := c8) 8 Aa_62 (by first | rfl | decide) rfl d17_525 ?_
                      refine C.castore 6 Aw61 (by first | rfl | decide) (Nat.le_of_ble_eq_true rfl) (by omega) (by omega) d17_526 (List.mem_of_getElem? (i := 0) rfl) fun h63 z63 K63 Aw63 => ?_
                      have Aw63 : Ary Z h63 a49 .char [.int c2, .int c3, .int c4, .int c5, .int c6, .int c7, .int c8, .int 0, .int 0, .int 0] := Aw63
                      show C.W h63 [a49, a47] 2 14 (mkF K.m 527 #[.val (.ref a), .val (.int n)] [.ref a49, .ref a47, .ref a47])
                      refine C.dup rfl d17_527 ?_
                      refine C.bipush (v := (7 : Int32)) d17_528 (by first | rfl | decide) ?_
                      refine C.aloadN d17_530 rfl rfl ?_
                      refine C.bipush (v := (9 : Int32)) d17_531 (by first | rfl | decide) ?_
                      have Aa_64 := (Aa_62.keep K63 (ninS (neA (by omega)) nin0))
                      refine C.caload (x := c9) 9 Aa_64 (by first | rfl | decide) rfl d17_533 ?_
                      refine C.castore 7 Aw63 (by first | rfl | decide) (Nat.le_of_ble_eq_true rfl) (by omega) (by omega) d17_534 (List.mem_of_getElem? (i := 0) rfl) fun h65 z65 K65 Aw65 => ?_
                      have Aw65 : Ary Z h65 a49 .char [.int c2, .int c3, .int c4, .int c5, .int c6, .int c7, .int c8, .int c9, .int 0, .int 0] := Aw65
                      show C.W h65 [a49, a47] 2 14 (mkF K.m 535 #[.val (.ref a), .val (.int n)] [.ref a49, .ref a47, .ref a47])
                      refine C.dup rfl d17_535 ?_
                      refine C.bipush (v := (8 : Int32)) d17_536 (by first | rfl | decide) ?_
                      refine C.aloadN d17_538 rfl rfl ?_
                      refine C.bipush (v := (10 : Int32)) d17_539 (by first | rfl | decide) ?_
                      have Aa_66 := (Aa_64.keep K65 (ninS (neA (by omega)) nin0))
                      refine C.caload (x := c10) 10 Aa_66 (by first | rfl | decide) rfl d17_541 ?_
                      refine C.castore 8 Aw65 (by first | rfl | decide) (Nat.le_of_ble_eq_true rfl) (by omega) (by omega) d17_542 (List.mem_of_getElem? (i := 0) rfl) fun h67 z67 K67 Aw67 => ?_
                      have Aw67 : Ary Z h67 a49 .char [.int c2, .int c3, .int c4, .int c5, .int c6, .int c7, .int c8, .int c9, .int c10, .int 0] := Aw67
                      show C.W h67 [a49, a47] 2 14 (mkF K.m 543 #[.val (.ref a), .val (.int n)] [.ref a49, .ref a47, .ref a47])
                      refine C.dup rfl d17_543 ?_
                      refine C.bipush (v := (9 : Int32)) d17_544 (by first | rfl | decide) ?_
                      refine C.aloadN d17_546 rfl rfl ?_
                      refine C.bipush (v := (11 : Int32)) d17_547 (by first | rfl | decide) ?_
                      have Aa_68 := (Aa_66.keep K67 (ninS (neA (by omega)) nin0))
                      refine C.caload (x := c11) 11 Aa_68 (by first | rfl | decide) rfl d17_549 ?_
                      refine C.castore 9 Aw67 (by first | rfl | decide) (Nat.le_of_ble_eq_true rfl) (by omega) (by omega) d17_550 (List.mem_of_getElem? (i := 0) rfl) fun h69 z69 K69 Aw69 => ?_
                      have Aw69 : Ary Z h69 a49 .char [.int c2, .int c3, .int c4, .int c5, .int c6, .int c7, .int c8, .int c9, .int c10, .int c11] := Aw69
                      show C.W h69 [a49, a47] 2 14 (mkF K.m 551 #[.val (.ref a), .val (.int n)] [.ref a49, .ref a47, .ref a47])
                      have hdg : ∀ c ∈ ([c2, c3, c4, c5, c6, c7, c8, c9, c10, c11] : List Int32), 48 ≤ c.toInt ∧ c.toInt ≤ 57 := by
                        intro c hc
                        simp only [List.mem_cons, List.not_mem_nil, or_false] at hc
                        rcases hc with rfl | rfl | rfl | rfl | rfl | rfl | rfl | rfl | rfl | rfl <;> assumption
                      have En46_70 := (((((((((((En46.keep K48).keep K51).keep K53).keep K55).keep K57).keep K59).keep K61).keep K63).keep K65).keep K67).keep K69)
                      have Fv_71 := (((((((((((Fv.keep K48 nin0).keep K51 (ninS (neA (by omega)) nin0)).keep K53 (ninS (neA (by omega)) nin0)).keep K55 (ninS (neA (by omega)) nin0)).keep K57 (ninS (neA (by omega)) nin0)).keep K59 (ninS (neA (by omega)) nin0)).keep K61 (ninS (neA (by omega)) nin0)).keep K63 (ninS (neA (by omega)) nin0)).keep K65 (ninS (neA (by omega)) nin0)).keep K67 (ninS (neA (by omega)) nin0)).keep K69 (ninS (neA (by omega)) nin0))
                      have Fc_72 := (((((((((((Fc.keep K48 nin0).keep K51 (ninS (neA (by omega)) nin0)).keep K53 (ninS (neA (by omega)) nin0)).keep K55 (ninS (neA (by omega)) nin0)).keep K57 (ninS (neA (by omega)) nin0)).keep K59 (ninS (neA (by omega)) nin0)).keep K61 (ninS (neA (by omega)) nin0)).keep K63 (ninS (neA (by omega)) nin0)).keep K65 (ninS (neA (by omega)) nin0)).keep K67 (ninS (neA (by omega)) nin0)).keep K69 (ninS (neA (by omega)) nin0))
                      refine C.callN a47 [.ref a49] [.ref a47] 1 (B.1 _ (List.mem_of_getElem? (i := 20) rfl)) (B.1 _ (List.mem_of_getElem? (i := 21) rfl)) (B.1 _ (List.mem_of_getElem? (i := 22) rfl)) rfl (by decide) pd__28__5b_C_29_V rfl id (c_init1 B (cs := [c2, c3, c4, c5, c6, c7, c8, c9, c10, c11]) En46_70 Fv_71 Fc_72 Aw69 (Nat.le_of_ble_eq_true rfl) (fun c hc => by have := hdg c hc; omega) (Nat.le_of_ble_eq_true rfl)) d17_551 rfl rfl rfl (by decide) (by decide) (by decide) (by decide) (allS (List.mem_of_getElem? (i := 1) rfl) all0) fun v73 h73 z73 K73 q73 => ?_
                      obtain ⟨rfl, S73⟩ := q73
                      show C.W h73 [a49, a47] 3 26 (mkF K.m 554 #[.val (.ref a), .val (.int n)] [.ref a47])
                      exact C.areturn rfl rfl rfl d17_554 (by decide) (by decide) ⟨a47, [c2, c3, c4, c5, c6, c7, c8, c9, c10, c11], rfl, S73, by rw [cn]; rfl, hdg, by rw [cn, show ((10 : Int) ^ (10 : Int).toNat) = 10000000000 by decide]; exact dig10 E2 E3 E4 E5 E6 E7 E8 E9 E10 E11⟩
                  · have cn : n.toInt = 9 := by omega
                    refine C.new (B.1 _ (List.mem_of_getElem? (i := 17) rfl)) (B.1 _ (List.mem_of_getElem? (i := 18) rfl)) (B.1 _ (List.mem_of_getElem? (i := 19) rfl)) d17_392 (by decide) (by decide) fun h74 a75 g74 z74 o74 K74 En74 Dn74 => ?_
                    show C.W h74 [a75] 1 4 (mkF K.m 395 #[.val (.ref a), .val (.int n)] [.ref a75])
                    have Fv : Fld Z h74 a75 "java/lang/String" "value" "[B" (.null) := Dn74 (Or.inr (B.1 _ (List.mem_of_getElem? (i := 45) rfl))) (ty := (.array .byte)) (by decide)
                    have Fc : Fld Z h74 a75 "java/lang/String" "coder" "B" (.int 0) := Dn74 (Or.inr (B.1 _ (List.mem_of_getElem? (i := 43) rfl))) (ty := .byte) (by decide)
                    refine C.dup rfl d17_395 ?_
                    refine C.bipush (v := (9 : Int32)) d17_396 (by first | rfl | decide) ?_
                    refine C.newarr 9 9 (B.1 _ (List.mem_of_getElem? (i := 1) rfl)) d17_398 (by first | rfl | decide) (by decide) (by decide) (by decide) (by decide) fun h76 a77 g76 z76 o76 K76 An76 => ?_
                    have An76 : Ary Z h76 a77 .char [.int 0, .int 0, .int 0, .int 0, .int 0, .int 0, .int 0, .int 0, .int 0] := An76
                    show C.W h76 [a77, a75] 2 13 (mkF K.m 400 #[.val (.ref a), .val (.int n)] [.ref a77, .ref a75, .ref a75])
                    refine C.dup rfl d17_400 ?_
                    refine C.iconst (v := (0 : Int32)) d17_401 (by first | rfl | decide) ?_
                    refine C.aloadN d17_402 rfl rfl ?_
                    refine C.iconst (v := (3 : Int32)) d17_403 (by first | rfl | decide) ?_
                    have Aa_78 := ((Aa.keep K74 nin0).keep K76 nin0)
                    refine C.caload (x := c3) 3 Aa_78 (by first | rfl | decide) rfl d17_404 ?_
                    refine C.castore 0 An76 (by first | rfl | decide) (Nat.le_of_ble_eq_true rfl) (by omega) (by omega) d17_405 (List.mem_of_getElem? (i := 0) rfl) fun h79 z79 K79 Aw79 => ?_
                    have Aw79 : Ary Z h79 a77 .char [.int c3, .int 0, .int 0, .int 0, .int 0, .int 0, .int 0, .int 0, .int 0] := Aw79
                    show C.W h79 [a77, a75] 2 13 (mkF K.m 406 #[.val (.ref a), .val (.int n)] [.ref a77, .ref a75, .ref a75])
                    refine C.dup rfl d17_406 ?_
                    refine C.iconst (v := (1 : Int32)) d17_407 (by first | rfl | decide) ?_
                    refine C.aloadN d17_408 rfl rfl ?_
                    refine C.iconst (v := (4 : Int32)) d17_409 (by first | rfl | decide) ?_
                    have Aa_80 := (Aa_78.keep K79 (ninS (neA (by omega)) nin0))
                    refine C.caload (x := c4) 4 Aa_80 (by first | rfl | decide) rfl d17_410 ?_
                    refine C.castore 1 Aw79 (by first | rfl | decide) (Nat.le_of_ble_eq_true rfl) (by omega) (by omega) d17_411 (List.mem_of_getElem? (i := 0) rfl) fun h81 z81 K81 Aw81 => ?_
                    have Aw81 : Ary Z h81 a77 .char [.int c3, .int c4, .int 0, .int 0, .int 0, .int 0, .int 0, .int 0, .int 0] := Aw81
                    show C.W h81 [a77, a75] 2 13 (mkF K.m 412 #[.val (.ref a), .val (.int n)] [.ref a77, .ref a75, .ref a75])
                    refine C.dup rfl d17_412 ?_
                    refine C.iconst (v := (2 : Int32)) d17_413 (by first | rfl | decide) ?_
                    refine C.aloadN d17_414 rfl rfl ?_
                    refine C.iconst (v := (5 : Int32)) d17_415 (by first | rfl | decide) ?_
                    have Aa_82 := (Aa_80.keep K81 (ninS (neA (by omega)) nin0))
                    refine C.caload (x := c5) 5 Aa_82 (by first | rfl | decide) rfl d17_416 ?_
                    refine C.castore 2 Aw81 (by first | rfl | decide) (Nat.le_of_ble_eq_true rfl) (by omega) (by omega) d17_417 (List.mem_of_getElem? (i := 0) rfl) fun h83 z83 K83 Aw83 => ?_
                    have Aw83 : Ary Z h83 a77 .char [.int c3, .int c4, .int c5, .int 0, .int 0, .int 0, .int 0, .int 0, .int 0] := Aw83
                    show C.W h83 [a77, a75] 2 13 (mkF K.m 418 #[.val (.ref a), .val (.int n)] [.ref a77, .ref a75, .ref a75])
                    refine C.dup rfl d17_418 ?_
                    refine C.iconst (v := (3 : Int32)) d17_419 (by first | rfl | decide) ?_
                    refine C.aloadN d17_420 rfl rfl ?_
                    refine C.bipush (v := (6 : Int32)) d17_421 (by first | rfl | decide) ?_
                    have Aa_84 := (Aa_82.keep K83 (ninS (neA (by omega)) nin0))
                    refine C.caload (x := c6) 6 Aa_84 (by first | rfl | decide) rfl d17_423 ?_
                    refine C.castore 3 Aw83 (by first | rfl | decide) (Nat.le_of_ble_eq_true rfl) (by omega) (by omega) d17_424 (List.mem_of_getElem? (i := 0) rfl) fun h85 z85 K85 Aw85 => ?_
                    have Aw85 : Ary Z h85 a77 .char [.int c3, .int c4, .int c5, .int c6, .int 0, .int 0, .int 0, .int 0, .int 0] := Aw85
                    show C.W h85 [a77, a75] 2 13 (mkF K.m 425 #[.val (.ref a), .val (.int n)] [.ref a77, .ref a75, .ref a75])
                    refine C.dup rfl d17_425 ?_
                    refine C.iconst (v := (4 : Int32)) d17_426 (by first | rfl | decide) ?_
                    refine C.aloadN d17_427 rfl rfl ?_
                    refine C.bipush (v := (7 : Int32)) d17_428 (by first | rfl | decide) ?_
                    have Aa_86 := (Aa_84.keep K85 (ninS (neA (by omega)) nin0))
                    refine C.caload (x := c7) 7 Aa_86 (by first | rfl | decide) rfl d17_430 ?_
                    refine C.castore 4 Aw85 (by first | rfl | decide) (Nat.le_of_ble_eq_true rfl) (by omega) (by omega) d17_431 (List.mem_of_getElem? (i := 0) rfl) fun h87 z87 K87 Aw87 => ?_
                    have Aw87 : Ary Z h87 a77 .char [.int c3, .int c4, .int c5, .int c6, .int c7, .int 0, .int 0, .int 0, .int 0] := Aw87
                    show C.W h87 [a77, a75] 2 13 (mkF K.m 432 #[.val (.ref a), .val (.int n)] [.ref a77, .ref a75, .ref a75])
                    refine C.dup rfl d17_432 ?_
                    refine C.iconst (v := (5 : Int32)) d17_433 (by first | rfl | decide) ?_
                    refine C.aloadN d17_434 rfl rfl ?_
                    refine C.bipush (v := (8 : Int32)) d17_435 (by first | rfl | decide) ?_
                    have Aa_88 := (Aa_86.keep K87 (ninS (neA (by omega)) nin0))
                    refine C.caload (x := c8) 8 Aa_88 (by first | rfl | decide) rfl d17_437 ?_
                    refine C.castore 5 Aw87 (by first | rfl | decide) (Nat.le_of_ble_eq_true rfl) (by omega) (by omega) d17_438 (List.mem_of_getElem? (i := 0) rfl) fun h89 z89 K89 Aw89 => ?_
                    have Aw89 : Ary Z h89 a77 .char [.int c3, .int c4, .int c5, .int c6, .int c7, .int c8, .int 0, .int 0, .int 0] := Aw89
                    show C.W h89 [a77, a75] 2 13 (mkF K.m 439 #[.val (.ref a), .val (.int n)] [.ref a77, .ref a75, .ref a75])
                    refine C.dup rfl d17_439 ?_
                    refine C.bipush (v := (6 : Int32)) d17_440 (by first | rfl | decide) ?_
                    refine C.aloadN d17_442 rfl rfl ?_
                    refine C.bipush (v := (9 : Int32)) d17_443 (by first | rfl | decide) ?_
                    have Aa_90 := (Aa_88.keep K89 (ninS (neA (by omega)) nin0))
                    refine C.caload (x := c9) 9 Aa_90 (by first | rfl | decide) rfl d17_445 ?_
                    refine C.castore 6 Aw89 (by first | rfl | decide) (Nat.le_of_ble_eq_true rfl) (by omega) (by omega) d17_446 (List.mem_of_getElem? (i := 0) rfl) fun h91 z91 K91 Aw91 => ?_
                    have Aw91 : Ary Z h91 a77 .char [.int c3, .int c4, .int c5, .int c6, .int c7, .int c8, .int c9, .int 0, .int 0] := Aw91
                    show C.W h91 [a77, a75] 2 13 (mkF K.m 447 #[.val (.ref a), .val (.int n)] [.ref a77, .ref a75, .ref a75])
                    refine C.dup rfl d17_447 ?_
                    refine C.bipush (v := (7 : Int32)) d17_448 (by first | rfl | decide) ?_
                    refine C.aloadN d17_450 rfl rfl ?_
                    refine C.bipush (v := (10 : Int32)) d17_451 (by first | rfl | decide) ?_
                    have Aa_92 := (Aa_90.keep K91 (ninS (neA (by omega)) nin0))
                    refine C.caload (x := c10) 10 Aa_92 (by first | rfl | decide) rfl d17_453 ?_
                    refine C.castore 7 Aw91 (by first | rfl | decide) (Nat.le_of_ble_eq_true rfl) (by omega) (by omega) d17_454 (List.mem_of_getElem? (i := 0) rfl) fun h93 z93 K93 Aw93 => ?_
                    have Aw93 : Ary Z h93 a77 .char [.int c3, .int c4, .int c5, .int c6, .int c7, .int c8, .int c9, .int c10, .int 0] := Aw93
                    show C.W h93 [a77, a75] 2 13 (mkF K.m 455 #[.val (.ref a), .val (.int n)] [.ref a77, .ref a75, .ref a75])
                    refine C.dup rfl d17_455 ?_
                    refine C.bipush (v := (8 : Int32)) d17_456 (by first | rfl | decide) ?_
                    refine C.aloadN d17_458 rfl rfl ?_
                    refine C.bipush (v := (11 : Int32)) d17_459 (by first | rfl | decide) ?_
                    have Aa_94 := (Aa_92.keep K93 (ninS (neA (by omega)) nin0))
                    refine C.caload (x := c11) 11 Aa_94 (by first | rfl | decide) rfl d17_461 ?_
                    refine C.castore 8 Aw93 (by first | rfl | decide) (Nat.le_of_ble_eq_true rfl) (by omega) (by omega) d17_462 (List.mem_of_getElem? (i := 0) rfl) fun h95 z95 K95 Aw95 => ?_
                    have Aw95 : Ary Z h95 a77 .char [.int c3, .int c4, .int c5, .int c6, .int c7, .int c8, .int c9, .int c10, .int c11] := Aw95
                    show C.W h95 [a77, a75] 2 13 (mkF K.m 463 #[.val (.ref a), .val (.int n)] [.ref a77, .ref a75, .ref a75])
                    have hdg : ∀ c ∈ ([c3, c4, c5, c6, c7, c8, c9, c10, c11] : List Int32), 48 ≤ c.toInt ∧ c.toInt ≤ 57 := by
                      intro c hc
                      simp only [List.mem_cons, List.not_mem_nil, or_false] at hc
                      rcases hc with rfl | rfl | rfl | rfl | rfl | rfl | rfl | rfl | rfl <;> assumption
                    have En74_96 := ((((((((((En74.keep K76).keep K79).keep K81).keep K83).keep K85).keep K87).keep K89).keep K91).keep K93).keep K95)
                    have Fv_97 := ((((((((((Fv.keep K76 nin0).keep K79 (ninS (neA (by omega)) nin0)).keep K81 (ninS (neA (by omega)) nin0)).keep K83 (ninS (neA (by omega)) nin0)).keep K85 (ninS (neA (by omega)) nin0)).keep K87 (ninS (neA (by omega)) nin0)).keep K89 (ninS (neA (by omega)) nin0)).keep K91 (ninS (neA (by omega)) nin0)).keep K93 (ninS (neA (by omega)) nin0)).keep K95 (ninS (neA (by omega)) nin0))
                    have Fc_98 := ((((((((((Fc.keep K76 nin0).keep K79 (ninS (neA (by omega)) nin0)).keep K81 (ninS (neA (by omega)) nin0)).keep K83 (ninS (neA (by omega)) nin0)).keep K85 (ninS (neA (by omega)) nin0)).keep K87 (ninS (neA (by omega)) nin0)).keep K89 (ninS (neA (by omega)) nin0)).keep K91 (ninS (neA (by omega)) nin0)).keep K93 (ninS (neA (by omega)) nin0)).keep K95 (ninS (neA (by omega)) nin0))
                    refine C.callN a75 [.ref a77] [.ref a75] 1 (B.1 _ (List.mem_of_getElem? (i := 20) rfl)) (B.1 _ (List.mem_of_getElem? (i := 21) rfl)) (B.1 _ (List.mem_of_getElem? (i := 22) rfl)) rfl (by decide) pd__28__5b_C_29_V rfl id (c_init1 B (cs := [c3, c4, c5, c6, c7, c8, c9, c10, c11]) En74_96 Fv_97 Fc_98 Aw95 (Nat.le_of_ble_eq_true rfl) (fun c hc => by have := hdg c hc; omega) (Nat.le_of_ble_eq_true rfl)) d17_463 rfl rfl rfl (by decide) (by decide) (by decide) (by decide) (allS (List.mem_of_getElem? (i := 1) rfl) all0) fun v99 h99 z99 K99 q99 => ?_
                    obtain ⟨rfl, S99⟩ := q99
                    show C.W h99 [a77, a75] 3 25 (mkF K.m 466 #[.val (.ref a), .val (.int n)] [.ref a75])
                    exact C.areturn rfl rfl rfl d17_466 (by decide) (by decide) ⟨a75, [c3, c4, c5, c6, c7, c8, c9, c10, c11], rfl, S99, by rw [cn]; rfl, hdg, by rw [cn, show ((10 : Int) ^ (9 : Int).toNat) = 1000000000 by decide]; exact dig9 E3 E4 E5 E6 E7 E8 E9 E10 E11⟩
                · have cn : n.toInt = 8 := by omega
                  refine C.new (B.1 _ (List.mem_of_getElem? (i := 17) rfl)) (B.1 _ (List.mem_of_getElem? (i := 18) rfl)) (B.1 _ (List.mem_of_getElem? (i := 19) rfl)) d17_318 (by decide) (by decide) fun h100 a101 g100 z100 o100 K100 En100 Dn100 => ?_
                  show C.W h100 [a101] 1 4 (mkF K.m 321 #[.val (.ref a), .val (.int n)] [.ref a101])
                  have Fv : Fld Z h100 a101 "java/lang/String" "value" "[B" (.null) := Dn100 (Or.inr (B.1 _ (List.mem_of_getElem? (i := 45) rfl))) (ty := (.array .byte)) (by decide)
                  have Fc : Fld Z h100 a101 "java/lang/String" "coder" "B" (.int 0) := Dn100 (Or.inr (B.1 _ (List.mem_of_getElem? (i := 43) rfl))) (ty := .byte) (by decide)
                  refine C.dup rfl d17_321 ?_
                  refine C.bipush (v := (8 : Int32)) d17_322 (by first | rfl | decide) ?_
                  refine C.newarr 8 8 (B.1 _ (List.mem_of_getElem? (i := 1) rfl)) d17_324 (by first | rfl | decide) (by decide) (by decide) (by decide) (by decide) fun h102 a103 g102 z102 o102 K102 An102 => ?_
                  have An102 : Ary Z h102 a103 .char [.int 0, .int 0, .int 0, .int 0, .int 0, .int 0, .int 0, .int 0] := An102
                  show C.W h102 [a103, a101] 2 12 (mkF K.m 326 #[.val (.ref a), .val (.int n)] [.ref a103, .ref a101, .ref a101])
                  refine C.dup rfl d17_326 ?_
                  refine C.iconst (v := (0 : Int32)) d17_327 (by first | rfl | decide) ?_
                  refine C.aloadN d17_328 rfl rfl ?_
                  refine C.iconst (v := (4 : Int32)) d17_329 (by first | rfl | decide) ?_
                  have Aa_104 := ((Aa.keep K100 nin0).keep K102 nin0)
                  refine C.caload (x := c4) 4 Aa_104 (by first | rfl | decide) rfl d17_330 ?_
                  refine C.castore 0 An102 (by first | rfl | decide) (Nat.le_of_ble_eq_true rfl) (by omega) (by omega) d17_331 (List.mem_of_getElem? (i := 0) rfl) fun h105 z105 K105 Aw105 => ?_
                  have Aw105 : Ary Z h105 a103 .char [.int c4, .int 0, .int 0, .int 0, .int 0, .int 0, .int 0, .int 0] := Aw105
                  show C.W h105 [a103, a101] 2 12 (mkF K.m 332 #[.val (.ref a), .val (.int n)] [.ref a103, .ref a101, .ref a101])
                  refine C.dup rfl d17_332 ?_
                  refine C.iconst (v := (1 : Int32)) d17_333 (by first | rfl | decide) ?_
                  refine C.aloadN d17_334 rfl rfl ?_
                  refine C.iconst (v := (5 : Int32)) d17_335 (by first | rfl | decide) ?_
                  have Aa_106 := (Aa_104.keep K105 (ninS (neA (by omega)) nin0))
                  refine C.caload (x := c5) 5 Aa_106 (by first | rfl | decide) rfl d17_336 ?_
                  refine C.castore 1 Aw105 (by first | rfl | decide) (Nat.le_of_ble_eq_true rfl) (by omega) (by omega) d17_337 (List.mem_of_getElem? (i := 0) rfl) fun h107 z107 K107 Aw107 => ?_
                  have Aw107 : Ary Z h107 a103 .char [.int c4, .int c5, .int 0, .int 0, .int 0, .int 0, .int 0, .int 0] := Aw107
                  show C.W h107 [a103, a101] 2 12 (mkF K.m 338 #[.val (.ref a), .val (.int n)] [.ref a103, .ref a101, .ref a101])
                  refine C.dup rfl d17_338 ?_
                  refine C.iconst (v := (2 : Int32)) d17_339 (by first | rfl | decide) ?_
                  refine C.aloadN d17_340 rfl rfl ?_
                  refine C.bipush (v := (6 : Int32)) d17_341 (by first | rfl | decide) ?_
                  have Aa_108 := (Aa_106.keep K107 (ninS (neA (by omega)) nin0))
                  refine C.caload (x := c6) 6 Aa_108 (by first | rfl | decide) rfl d17_343 ?_
                  refine C.castore 2 Aw107 (by first | rfl | decide) (Nat.le_of_ble_eq_true rfl) (by omega) (by omega) d17_344 (List.mem_of_getElem? (i := 0) rfl) fun h109 z109 K109 Aw109 => ?_
                  have Aw109 : Ary Z h109 a103 .char [.int c4, .int c5, .int c6, .int 0, .int 0, .int 0, .int 0, .int 0] := Aw109
                  show C.W h109 [a103, a101] 2 12 (mkF K.m 345 #[.val (.ref a), .val (.int n)] [.ref a103, .ref a101, .ref a101])
                  refine C.dup rfl d17_345 ?_
                  refine C.iconst (v := (3 : Int32)) d17_346 (by first | rfl | decide) ?_
                  refine C.aloadN d17_347 rfl rfl ?_
                  refine C.bipush (v := (7 : Int32)) d17_348 (by first | rfl | decide) ?_
                  have Aa_110 := (Aa_108.keep K109 (ninS (neA (by omega)) nin0))
                  refine C.caload (x := c7) 7 Aa_110 (by first | rfl | decide) rfl d17_350 ?_
                  refine C.castore 3 Aw109 (by first | rfl | decide) (Nat.le_of_ble_eq_true rfl) (by omega) (by omega) d17_351 (List.mem_of_getElem? (i := 0) rfl) fun h111 z111 K111 Aw111 => ?_
                  have Aw111 : Ary Z h111 a103 .char [.int c4, .int c5, .int c6, .int c7, .int 0, .int 0, .int 0, .int 0] := Aw111
                  show C.W h111 [a103, a101] 2 12 (mkF K.m 352 #[.val (.ref a), .val (.int n)] [.ref a103, .ref a101, .ref a101])
                  refine C.dup rfl d17_352 ?_
                  refine C.iconst (v := (4 : Int32)) d17_353 (by first | rfl | decide) ?_
                  refine C.aloadN d17_354 rfl rfl ?_
                  refine C.bipush (v := (8 : Int32)) d17_355 (by first | rfl | decide) ?_
                  have Aa_112 := (Aa_110.keep K111 (ninS (neA (by omega)) nin0))
                  refine C.caload (x := c8) 8 Aa_112 (by first | rfl | decide) rfl d17_357 ?_
                  refine C.castore 4 Aw111 (by first | rfl | decide) (Nat.le_of_ble_eq_true rfl) (by omega) (by omega) d17_358 (List.mem_of_getElem? (i := 0) rfl) fun h113 z113 K113 Aw113 => ?_
                  have Aw113 : Ary Z h113 a103 .char [.int c4, .int c5, .int c6, .int c7, .int c8, .int 0, .int 0, .int 0] := Aw113
                  show C.W h113 [a103, a101] 2 12 (mkF K.m 359 #[.val (.ref a), .val (.int n)] [.ref a103, .ref a101, .ref a101])
                  refine C.dup rfl d17_359 ?_
                  refine C.iconst (v := (5 : Int32)) d17_360 (by first | rfl | decide) ?_
                  refine C.aloadN d17_361 rfl rfl ?_
                  refine C.bipush (v := (9 : Int32)) d17_362 (by first | rfl | decide) ?_
                  have Aa_114 := (Aa_112.keep K113 (ninS (neA (by omega)) nin0))
                  refine C.caload (x := c9) 9 Aa_114 (by first | rfl | decide) rfl d17_364 ?_
                  refine C.castore 5 Aw113 (by first | rfl | decide) (Nat.le_of_ble_eq_true rfl) (by omega) (by omega) d17_365 (List.mem_of_getElem? (i := 0) rfl) fun h115 z115 K115 Aw115 => ?_
                  have Aw115 : Ary Z h115 a103 .char [.int c4, .int c5, .int c6, .int c7, .int c8, .int c9, .int 0, .int 0] := Aw115
                  show C.W h115 [a103, a101] 2 12 (mkF K.m 366 #[.val (.ref a), .val (.int n)] [.ref a103, .ref a101, .ref a101])
                  refine C.dup rfl d17_366 ?_
                  refine C.bipush (v := (6 : Int32)) d17_367 (by first | rfl | decide) ?_
                  refine C.aloadN d17_369 rfl rfl ?_
                  refine C.bipush (v := (10 : Int32)) d17_370 (by first | rfl | decide) ?_
                  have Aa_116 := (Aa_114.keep K115 (ninS (neA (by omega)) nin0))
                  refine C.caload (x := c10) 10 Aa_116 (by first | rfl | decide) rfl d17_372 ?_
                  refine C.castore 6 Aw115 (by first | rfl | decide) (Nat.le_of_ble_eq_true rfl) (by omega) (by omega) d17_373 (List.mem_of_getElem? (i := 0) rfl) fun h117 z117 K117 Aw117 => ?_
                  have Aw117 : Ary Z h117 a103 .char [.int c4, .int c5, .int c6, .int c7, .int c8, .int c9, .int c10, .int 0] := Aw117
                  show C.W h117 [a103, a101] 2 12 (mkF K.m 374 #[.val (.ref a), .val (.int n)] [.ref a103, .ref a101, .ref a101])
                  refine C.dup rfl d17_374 ?_
                  refine C.bipush (v := (7 : Int32)) d17_375 (by first | rfl | decide) ?_
                  refine C.aloadN d17_377 rfl rfl ?_
                  refine C.bipush (v := (11 : Int32)) d17_378 (by first | rfl | decide) ?_
                  have Aa_118 := (Aa_116.keep K117 (ninS (neA (by omega)) nin0))
                  refine C.caload (x := c11) 11 Aa_118 (by first | rfl | decide) rfl d17_380 ?_
                  refine C.castore 7 Aw117 (by first | rfl | decide) (Nat.le_of_ble_eq_true rfl) (by omega) (by omega) d17_381 (List.mem_of_getElem? (i := 0) rfl) fun h119 z119 K119 Aw119 => ?_
                  have Aw119 : Ary Z h119 a103 .char [.int c4, .int c5, .int c6, .int c7, .int c8, .int c9, .int c10, .int c11] := Aw119
                  show C.W h119 [a103, a101] 2 12 (mkF K.m 382 #[.val (.ref a), .val (.int n)] [.ref a103, .ref a101, .ref a101])
                  have hdg : ∀ c ∈ ([c4, c5, c6, c7, c8, c9, c10, c11] : List Int32), 48 ≤ c.toInt ∧ c.toInt ≤ 57 := by
                    intro c hc
                    simp only [List.mem_cons, List.not_mem_nil, or_false] at hc
                    rcases hc with rfl | rfl | rfl | rfl | rfl | rfl | rfl | rfl <;> assumption
                  have En100_120 := (((((((((En100.keep K102).keep K105).keep K107).keep K109).keep K111).keep K113).keep K115).keep K117).keep K119)
                  have Fv_121 := (((((((((Fv.keep K102 nin0).keep K105 (ninS (neA (by omega)) nin0)).keep K107 (ninS (neA (by omega)) nin0)).keep K109 (ninS (neA (by omega)) nin0)).keep K111 (ninS (neA (by omega)) nin0)).keep K113 (ninS (neA (by omega)) nin0)).keep K115 (ninS (neA (by omega)) nin0)).keep K117 (ninS (neA (by omega)) nin0)).keep K119 (ninS (neA (by omega)) nin0))
                  have Fc_122 := (((((((((Fc.keep K102 nin0).keep K105 (ninS (neA (by omega)) nin0)).keep K107 (ninS (neA (by omega)) nin0)).keep K109 (ninS (neA (by omega)) nin0)).keep K111 (ninS (neA (by omega)) nin0)).keep K113 (ninS (neA (by omega)) nin0)).keep K115 (ninS (neA (by omega)) nin0)).keep K117 (ninS (neA (by omega)) nin0)).keep K119 (ninS (neA (by omega)) nin0))
                  refine C.callN a101 [.ref a103] [.ref a101] 1 (B.1 _ (List.mem_of_getElem? (i := 20) rfl)) (B.1 _ (List.mem_of_getElem? (i := 21) rfl)) (B.1 _ (List.mem_of_getElem? (i := 22) rfl)) rfl (by decide) pd__28__5b_C_29_V rfl id (c_init1 B (cs := [c4, c5, c6, c7, c8, c9, c10, c11]) En100_120 Fv_121 Fc_122 Aw119 (Nat.le_of_ble_eq_true rfl) (fun c hc => by have := hdg c hc; omega) (Nat.le_of_ble_eq_true rfl)) d17_382 rfl rfl rfl (by decide) (by decide) (by decide) (by decide) (allS (List.mem_of_getElem? (i := 1) rfl) all0) fun v123 h123 z123 K123 q123 => ?_
                  obtain ⟨rfl, S123⟩ := q123
                  show C.W h123 [a103, a101] 3 24 (mkF K.m 385 #[.val (.ref a), .val (.int n)] [.ref a101])
                  exact C.areturn rfl rfl rfl d17_385 (by decide) (by decide) ⟨a101, [c4, c5, c6, c7, c8, c9, c10, c11], rfl, S123, by rw [cn]; rfl, hdg, by rw [cn, show ((10 : Int) ^ (8 : Int).toNat) = 100000000 by decide]; exact dig8 E4 E5 E6 E7 E8 E9 E10 E11⟩
              · have cn : n.toInt = 7 := by omega
                refine C.new (B.1 _ (List.mem_of_getElem? (i := 17) rfl)) (B.1 _ (List.mem_of_getElem? (i := 18) rfl)) (B.1 _ (List.mem_of_getElem? (i := 19) rfl)) d17_251 (by decide) (by decide) fun h124 a125 g124 z124 o124 K124 En124 Dn124 => ?_
                show C.W h124 [a125] 1 4 (mkF K.m 254 #[.val (.ref a), .val (.int n)] [.ref a125])
                have Fv : Fld Z h124 a125 "java/lang/String" "value" "[B" (.null) := Dn124 (Or.inr (B.1 _ (List.mem_of_getElem? (i := 45) rfl))) (ty := (.array .byte)) (by decide)
                have Fc : Fld Z h124 a125 "java/lang/String" "coder" "B" (.int 0) := Dn124 (Or.inr (B.1 _ (List.mem_of_getElem? (i := 43) rfl))) (ty := .byte) (by decide)
                refine C.dup rfl d17_254 ?_
                refine C.bipush (v := (7 : Int32)) d17_255 (by first | rfl | decide) ?_
                refine C.newarr 7 7 (B.1 _ (List.mem_of_getElem? (i := 1) rfl)) d17_257 (by first | rfl | decide) (by decide) (by decide) (by decide) (by decide) fun h126 a127 g126 z126 o126 K126 An126 => ?_
                have An126 : Ary Z h126 a127 .char [.int 0, .int 0, .int 0, .int 0, .int 0, .int 0, .int 0] := An126
                show C.W h126 [a127, a125] 2 11 (mkF K.m 259 #[.val (.ref a), .val (.int n)] [.ref a127, .ref a125, .ref a125])
                refine C.dup rfl d17_259 ?_
                refine C.iconst (v := (0 : Int32)) d17_260 (by first | rfl | decide) ?_
                refine C.aloadN d17_261 rfl rfl ?_
                refine C.iconst (v := (5 : Int32)) d17_262 (by first | rfl | decide) ?_
                have Aa_128 := ((Aa.keep K124 nin0).keep K126 nin0)
                refine C.caload (x := c5) 5 Aa_128 (by first | rfl | decide) rfl d17_263 ?_
                refine C.castore 0 An126 (by first | rfl | decide) (Nat.le_of_ble_eq_true rfl) (by omega) (by omega) d17_264 (List.mem_of_getElem? (i := 0) rfl) fun h129 z129 K129 Aw129 => ?_
                have Aw129 : Ary Z h129 a127 .char [.int c5, .int 0, .int 0, .int 0, .int 0, .int 0, .int 0] := Aw129
                show C.W h129 [a127, a125] 2 11 (mkF K.m 265 #[.val (.ref a), .val (.int n)] [.ref a127, .ref a125, .ref a125])
                refine C.dup rfl d17_265 ?_
                refine C.iconst (v := (1 : Int32)) d17_266 (by first | rfl | decide) ?_
                refine C.aloadN d17_267 rfl rfl ?_
                refine C.bipush (v := (6 : Int32)) d17_268 (by first | rfl | decide) ?_
                have Aa_130 := (Aa_128.keep K129 (ninS (neA (by omega)) nin0))
                refine C.caload (x := c6) 6 Aa_130 (by first | rfl | decide) rfl d17_270 ?_
                refine C.castore 1 Aw129 (by first | rfl | decide) (Nat.le_of_ble_eq_true rfl) (by omega) (by omega) d17_271 (List.mem_of_getElem? (i := 0) rfl) fun h131 z131 K131 Aw131 => ?_
                have Aw131 : Ary Z h131 a127 .char [.int c5, .int c6, .int 0, .int 0, .int 0, .int 0, .int 0] := Aw131
                show C.W h131 [a127, a125] 2 11 (mkF K.m 272 #[.val (.ref a), .val (.int n)] [.ref a127, .ref a125, .ref a125])
                refine C.dup rfl d17_272 ?_
                refine C.iconst (v := (2 : Int32)) d17_273 (by first | rfl | decide) ?_
                refine C.aloadN d17_274 rfl rfl ?_
                refine C.bipush (v := (7 : Int32)) d17_275 (by first | rfl | decide) ?_
                have Aa_132 := (Aa_130.keep K131 (ninS (neA (by omega)) nin0))
                refine C.caload (x := c7) 7 Aa_132 (by first | rfl | decide) rfl d17_277 ?_
                refine C.castore 2 Aw131 (by first | rfl | decide) (Nat.le_of_ble_eq_true rfl) (by omega) (by omega) d17_278 (List.mem_of_getElem? (i := 0) rfl) fun h133 z133 K133 Aw133 => ?_
                have Aw133 : Ary Z h133 a127 .char [.int c5, .int c6, .int c7, .int 0, .int 0, .int 0, .int 0] := Aw133
                show C.W h133 [a127, a125] 2 11 (mkF K.m 279 #[.val (.ref a), .val (.int n)] [.ref a127, .ref a125, .ref a125])
                refine C.dup rfl d17_279 ?_
                refine C.iconst (v := (3 : Int32)) d17_280 (by first | rfl | decide) ?_
                refine C.aloadN d17_281 rfl rfl ?_
                refine C.bipush (v := (8 : Int32)) d17_282 (by first | rfl | decide) ?_
                have Aa_134 := (Aa_132.keep K133 (ninS (neA (by omega)) nin0))
                refine C.caload (x := c8) 8 Aa_134 (by first | rfl | decide) rfl d17_284 ?_
                refine C.castore 3 Aw133 (by first | rfl | decide) (Nat.le_of_ble_eq_true rfl) (by omega) (by omega) d17_285 (List.mem_of_getElem? (i := 0) rfl) fun h135 z135 K135 Aw135 => ?_
                have Aw135 : Ary Z h135 a127 .char [.int c5, .int c6, .int c7, .int c8, .int 0, .int 0, .int 0] := Aw135
                show C.W h135 [a127, a125] 2 11 (mkF K.m 286 #[.val (.ref a), .val (.int n)] [.ref a127, .ref a125, .ref a125])
                refine C.dup rfl d17_286 ?_
                refine C.iconst (v := (4 : Int32)) d17_287 (by first | rfl | decide) ?_
                refine C.aloadN d17_288 rfl rfl ?_
                refine C.bipush (v := (9 : Int32)) d17_289 (by first | rfl | decide) ?_
                have Aa_136 := (Aa_134.keep K135 (ninS (neA (by omega)) nin0))
                refine C.caload (x := c9) 9 Aa_136 (by first | rfl | decide) rfl d17_291 ?_
                refine C.castore 4 Aw135 (by first | rfl | decide) (Nat.le_of_ble_eq_true rfl) (by omega) (by omega) d17_292 (List.mem_of_getElem? (i := 0) rfl) fun h137 z137 K137 Aw137 => ?_
                have Aw137 : Ary Z h137 a127 .char [.int c5, .int c6, .int c7, .int c8, .int c9, .int 0, .int 0] := Aw137
                show C.W h137 [a127, a125] 2 11 (mkF K.m 293 #[.val (.ref a), .val (.int n)] [.ref a127, .ref a125, .ref a125])
                refine C.dup rfl d17_293 ?_
                refine C.iconst (v := (5 : Int32)) d17_294 (by first | rfl | decide) ?_
                refine C.aloadN d17_295 rfl rfl ?_
                refine C.bipush (v := (10 : Int32)) d17_296 (by first | rfl | decide) ?_
                have Aa_138 := (Aa_136.keep K137 (ninS (neA (by omega)) nin0))
                refine C.caload (x := c10) 10 Aa_138 (by first | rfl | decide) rfl d17_298 ?_
                refine C.castore 5 Aw137 (by first | rfl | decide) (Nat.le_of_ble_eq_true rfl) (by omega) (by omega) d17_299 (List.mem_of_getElem? (i := 0) rfl) fun h139 z139 K139 Aw139 => ?_
                have Aw139 : Ary Z h139 a127 .char [.int c5, .int c6, .int c7, .int c8, .int c9, .int c10, .int 0] := Aw139
                show C.W h139 [a127, a125] 2 11 (mkF K.m 300 #[.val (.ref a), .val (.int n)] [.ref a127, .ref a125, .ref a125])
                refine C.dup rfl d17_300 ?_
                refine C.bipush (v := (6 : Int32)) d17_301 (by first | rfl | decide) ?_
                refine C.aloadN d17_303 rfl rfl ?_
                refine C.bipush (v := (11 : Int32)) d17_304 (by first | rfl | decide) ?_
                have Aa_140 := (Aa_138.keep K139 (ninS (neA (by omega)) nin0))
                refine C.caload (x := c11) 11 Aa_140 (by first | rfl | decide) rfl d17_306 ?_
                refine C.castore 6 Aw139 (by first | rfl | decide) (Nat.le_of_ble_eq_true rfl) (by omega) (by omega) d17_307 (List.mem_of_getElem? (i := 0) rfl) fun h141 z141 K141 Aw141 => ?_
                have Aw141 : Ary Z h141 a127 .char [.int c5, .int c6, .int c7, .int c8, .int c9, .int c10, .int c11] := Aw141
                show C.W h141 [a127, a125] 2 11 (mkF K.m 308 #[.val (.ref a), .val (.int n)] [.ref a127, .ref a125, .ref a125])
                have hdg : ∀ c ∈ ([c5, c6, c7, c8, c9, c10, c11] : List Int32), 48 ≤ c.toInt ∧ c.toInt ≤ 57 := by
                  intro c hc
                  simp only [List.mem_cons, List.not_mem_nil, or_false] at hc
                  rcases hc with rfl | rfl | rfl | rfl | rfl | rfl | rfl <;> assumption
                have En124_142 := ((((((((En124.keep K126).keep K129).keep K131).keep K133).keep K135).keep K137).keep K139).keep K141)
                have Fv_143 := ((((((((Fv.keep K126 nin0).keep K129 (ninS (neA (by omega)) nin0)).keep K131 (ninS (neA (by omega)) nin0)).keep K133 (ninS (neA (by omega)) nin0)).keep K135 (ninS (neA (by omega)) nin0)).keep K137 (ninS (neA (by omega)) nin0)).keep K139 (ninS (neA (by omega)) nin0)).keep K141 (ninS (neA (by omega)) nin0))
                have Fc_144 := ((((((((Fc.keep K126 nin0).keep K129 (ninS (neA (by omega)) nin0)).keep K131 (ninS (neA (by omega)) nin0)).keep K133 (ninS (neA (by omega)) nin0)).keep K135 (ninS (neA (by omega)) nin0)).keep K137 (ninS (neA (by omega)) nin0)).keep K139 (ninS (neA (by omega)) nin0)).keep K141 (ninS (neA (by omega)) nin0))
                refine C.callN a125 [.ref a127] [.ref a125] 1 (B.1 _ (List.mem_of_getElem? (i := 20) rfl)) (B.1 _ (List.mem_of_getElem? (i := 21) rfl)) (B.1 _ (List.mem_of_getElem? (i := 22) rfl)) rfl (by decide) pd__28__5b_C_29_V rfl id (c_init1 B (cs := [c5, c6, c7, c8, c9, c10, c11]) En124_142 Fv_143 Fc_144 Aw141 (Nat.le_of_ble_eq_true rfl) (fun c hc => by have := hdg c hc; omega) (Nat.le_of_ble_eq_true rfl)) d17_308 rfl rfl rfl (by decide) (by decide) (by decide) (by decide) (allS (List.mem_of_getElem? (i := 1) rfl) all0) fun v145 h145 z145 K145 q145 => ?_
                obtain ⟨rfl, S145⟩ := q145
                show C.W h145 [a127, a125] 3 23 (mkF K.m 311 #[.val (.ref a), .val (.int n)] [.ref a125])
                exact C.areturn rfl rfl rfl d17_311 (by decide) (by decide) ⟨a125, [c5, c6, c7, c8, c9, c10, c11], rfl, S145, by rw [cn]; rfl, hdg, by rw [cn, show ((10 : Int) ^ (7 : Int).toNat) = 10000000 by decide]; exact dig7 E5 E6 E7 E8 E9 E10 E11⟩
            · have cn : n.toInt = 6 := by omega
              refine C.new (B.1 _ (List.mem_of_getElem? (i := 17) rfl)) (B.1 _ (List.mem_of_getElem? (i := 18) rfl)) (B.1 _ (List.mem_of_getElem? (i := 19) rfl)) d17_191 (by decide) (by decide) fun h146 a147 g146 z146 o146 K146 En146 Dn146 => ?_
              show C.W h146 [a147] 1 4 (mkF K.m 194 #[.val (.ref a), .val (.int n)] [.ref a147])
              have Fv : Fld Z h146 a147 "java/lang/String" "value" "[B" (.null) := Dn146 (Or.inr (B.1 _ (List.mem_of_getElem? (i := 45) rfl))) (ty := (.array .byte)) (by decide)
              have Fc : Fld Z h146 a147 "java/lang/String" "coder" "B" (.int 0) := Dn146 (Or.inr (B.1 _ (List.mem_of_getElem? (i := 43) rfl))) (ty := .byte) (by decide)
              refine C.dup rfl d17_194 ?_
              refine C.bipush (v := (6 : Int32)) d17_195 (by first | rfl | decide) ?_
              refine C.newarr 6 6 (B.1 _ (List.mem_of_getElem? (i := 1) rfl)) d17_197 (by first | rfl | decide) (by decide) (by decide) (by decide) (by decide) fun h148 a149 g148 z148 o148 K148 An148 => ?_
              have An148 : Ary Z h148 a149 .char [.int 0, .int 0, .int 0, .int 0, .int 0, .int 0] := An148
              show C.W h148 [a149, a147] 2 10 (mkF K.m 199 #[.val (.ref a), .val (.int n)] [.ref a149, .ref a147, .ref a147])
              refine C.dup rfl d17_199 ?_
              refine C.iconst (v := (0 : Int32)) d17_200 (by first | rfl | decide) ?_
              refine C.aloadN d17_201 rfl rfl ?_
              refine C.bipush (v := (6 : Int32)) d17_202 (by first | rfl | decide) ?_
              have Aa_150 := ((Aa.keep K146 nin0).keep K148 nin0)
              refine C.caload (x := c6) 6 Aa_150 (by first | rfl | decide) rfl d17_204 ?_
              refine C.castore 0 An148 (by first | rfl | decide) (Nat.le_of_ble_eq_true rfl) (by omega) (by omega) d17_205 (List.mem_of_getElem? (i := 0) rfl) fun h151 z151 K151 Aw151 => ?_
              have Aw151 : Ary Z h151 a149 .char [.int c6, .int 0, .int 0, .int 0, .int 0, .int 0] := Aw151
              show C.W h151 [a149, a147] 2 10 (mkF K.m 206 #[.val (.ref a), .val (.int n)] [.ref a149, .ref a147, .ref a147])
              refine C.dup rfl d17_206 ?_
              refine C.iconst (v := (1 : Int32)) d17_207 (by first | rfl | decide) ?_
              refine C.aloadN d17_208 rfl rfl ?_
              refine C.bipush (v := (7 : Int32)) d17_209 (by first | rfl | decide) ?_
              have Aa_152 := (Aa_150.keep K151 (ninS (neA (by omega)) nin0))
              refine C.caload (x := c7) 7 Aa_152 (by first | rfl | decide) rfl d17_211 ?_
              refine C.castore 1 Aw151 (by first | rfl | decide) (Nat.le_of_ble_eq_true rfl) (by omega) (by omega) d17_212 (List.mem_of_getElem? (i := 0) rfl) fun h153 z153 K153 Aw153 => ?_
              have Aw153 : Ary Z h153 a149 .char [.int c6, .int c7, .int 0, .int 0, .int 0, .int 0] := Aw153
              show C.W h153 [a149, a147] 2 10 (mkF K.m 213 #[.val (.ref a), .val (.int n)] [.ref a149, .ref a147, .ref a147])
              refine C.dup rfl d17_213 ?_
              refine C.iconst (v := (2 : Int32)) d17_214 (by first | rfl | decide) ?_
              refine C.aloadN d17_215 rfl rfl ?_
              refine C.bipush (v := (8 : Int32)) d17_216 (by first | rfl | decide) ?_
              have Aa_154 := (Aa_152.keep K153 (ninS (neA (by omega)) nin0))
              refine C.caload (x := c8) 8 Aa_154 (by first | rfl | decide) rfl d17_218 ?_
              refine C.castore 2 Aw153 (by first | rfl | decide) (Nat.le_of_ble_eq_true rfl) (by omega) (by omega) d17_219 (List.mem_of_getElem? (i := 0) rfl) fun h155 z155 K155 Aw155 => ?_
              have Aw155 : Ary Z h155 a149 .char [.int c6, .int c7, .int c8, .int 0, .int 0, .int 0] := Aw155
              show C.W h155 [a149, a147] 2 10 (mkF K.m 220 #[.val (.ref a), .val (.int n)] [.ref a149, .ref a147, .ref a147])
              refine C.dup rfl d17_220 ?_
              refine C.iconst (v := (3 : Int32)) d17_221 (by first | rfl | decide) ?_
              refine C.aloadN d17_222 rfl rfl ?_
              refine C.bipush (v := (9 : Int32)) d17_223 (by first | rfl | decide) ?_
              have Aa_156 := (Aa_154.keep K155 (ninS (neA (by omega)) nin0))
              refine C.caload (x := c9) 9 Aa_156 (by first | rfl | decide) rfl d17_225 ?_
              refine C.castore 3 Aw155 (by first | rfl | decide) (Nat.le_of_ble_eq_true rfl) (by omega) (by omega) d17_226 (List.mem_of_getElem? (i := 0) rfl) fun h157 z157 K157 Aw157 => ?_
              have Aw157 : Ary Z h157 a149 .char [.int c6, .int c7, .int c8, .int c9, .int 0, .int 0] := Aw157
              show C.W h157 [a149, a147] 2 10 (mkF K.m 227 #[.val (.ref a), .val (.int n)] [.ref a149, .ref a147, .ref a147])
              refine C.dup rfl d17_227 ?_
              refine C.iconst (v := (4 : Int32)) d17_228 (by first | rfl | decide) ?_
              refine C.aloadN d17_229 rfl rfl ?_
              refine C.bipush (v := (10 : Int32)) d17_230 (by first | rfl | decide) ?_
              have Aa_158 := (Aa_156.keep K157 (ninS (neA (by omega)) nin0))
              refine C.caload (x := c10) 10 Aa_158 (by first | rfl | decide) rfl d17_232 ?_
              refine C.castore 4 Aw157 (by first | rfl | decide) (Nat.le_of_ble_eq_true rfl) (by omega) (by omega) d17_233 (List.mem_of_getElem? (i := 0) rfl) fun h159 z159 K159 Aw159 => ?_
              have Aw159 : Ary Z h159 a149 .char [.int c6, .int c7, .int c8, .int c9, .int c10, .int 0] := Aw159
              show C.W h159 [a149, a147] 2 10 (mkF K.m 234 #[.val (.ref a), .val (.int n)] [.ref a149, .ref a147, .ref a147])
              refine C.dup rfl d17_234 ?_
              refine C.iconst (v := (5 : Int32)) d17_235 (by first | rfl | decide) ?_
              refine C.aloadN d17_236 rfl rfl ?_
              refine C.bipush (v := (11 : Int32)) d17_237 (by first | rfl | decide) ?_
              have Aa_160 := (Aa_158.keep K159 (ninS (neA (by omega)) nin0))
              refine C.caload (x := c11) 11 Aa_160 (by first | rfl | decide) rfl d17_239 ?_
              refine C.castore 5 Aw159 (by first | rfl | decide) (Nat.le_of_ble_eq_true rfl) (by omega) (by omega) d17_240 (List.mem_of_getElem? (i := 0) rfl) fun h161 z161 K161 Aw161 => ?_
              have Aw161 : Ary Z h161 a149 .char [.int c6, .int c7, .int c8, .int c9, .int c10, .int c11] := Aw161
              show C.W h161 [a149, a147] 2 10 (mkF K.m 241 #[.val (.ref a), .val (.int n)] [.ref a149, .ref a147, .ref a147])
              have hdg : ∀ c ∈ ([c6, c7, c8, c9, c10, c11] : List Int32), 48 ≤ c.toInt ∧ c.toInt ≤ 57 := by
                intro c hc
                simp only [List.mem_cons, List.not_mem_nil, or_false] at hc
                rcases hc with rfl | rfl | rfl | rfl | rfl | rfl <;> assumption
              have En146_162 := (((((((En146.keep K148).keep K151).keep K153).keep K155).keep K157).keep K159).keep K161)
              have Fv_163 := (((((((Fv.keep K148 nin0).keep K151 (ninS (neA (by omega)) nin0)).keep K153 (ninS (neA (by omega)) nin0)).keep K155 (ninS (neA (by omega)) nin0)).keep K157 (ninS (neA (by omega)) nin0)).keep K159 (ninS (neA (by omega)) nin0)).keep K161 (ninS (neA (by omega)) nin0))
              have Fc_164 := (((((((Fc.keep K148 nin0).keep K151 (ninS (neA (by omega)) nin0)).keep K153 (ninS (neA (by omega)) nin0)).keep K155 (ninS (neA (by omega)) nin0)).keep K157 (ninS (neA (by omega)) nin0)).keep K159 (ninS (neA (by omega)) nin0)).keep K161 (ninS (neA (by omega)) nin0))
              refine C.callN a147 [.ref a149] [.ref a147] 1 (B.1 _ (List.mem_of_getElem? (i := 20) rfl)) (B.1 _ (List.mem_of_getElem? (i := 21) rfl)) (B.1 _ (List.mem_of_getElem? (i := 22) rfl)) rfl (by decide) pd__28__5b_C_29_V rfl id (c_init1 B (cs := [c6, c7, c8, c9, c10, c11]) En146_162 Fv_163 Fc_164 Aw161 (Nat.le_of_ble_eq_true rfl) (fun c hc => by have := hdg c hc; omega) (Nat.le_of_ble_eq_true rfl)) d17_241 rfl rfl rfl (by decide) (by decide) (by decide) (by decide) (allS (List.mem_of_getElem? (i := 1) rfl) all0) fun v165 h165 z165 K165 q165 => ?_
              obtain ⟨rfl, S165⟩ := q165
              show C.W h165 [a149, a147] 3 22 (mkF K.m 244 #[.val (.ref a), .val (.int n)] [.ref a147])
              exact C.areturn rfl rfl rfl d17_244 (by decide) (by decide) ⟨a147, [c6, c7, c8, c9, c10, c11], rfl, S165, by rw [cn]; rfl, hdg, by rw [cn, show ((10 : Int) ^ (6 : Int).toNat) = 1000000 by decide]; exact dig6 E6 E7 E8 E9 E10 E11⟩
          · have cn : n.toInt = 5 := by omega
            refine C.new (B.1 _ (List.mem_of_getElem? (i := 17) rfl)) (B.1 _ (List.mem_of_getElem? (i := 18) rfl)) (B.1 _ (List.mem_of_getElem? (i := 19) rfl)) d17_139 (by decide) (by decide) fun h166 a167 g166 z166 o166 K166 En166 Dn166 => ?_
            show C.W h166 [a167] 1 4 (mkF K.m 142 #[.val (.ref a), .val (.int n)] [.ref a167])
            have Fv : Fld Z h166 a167 "java/lang/String" "value" "[B" (.null) := Dn166 (Or.inr (B.1 _ (List.mem_of_getElem? (i := 45) rfl))) (ty := (.array .byte)) (by decide)
            have Fc : Fld Z h166 a167 "java/lang/String" "coder" "B" (.int 0) := Dn166 (Or.inr (B.1 _ (List.mem_of_getElem? (i := 43) rfl))) (ty := .byte) (by decide)
            refine C.dup rfl d17_142 ?_
            refine C.iconst (v := (5 : Int32)) d17_143 (by first | rfl | decide) ?_
            refine C.newarr 5 5 (B.1 _ (List.mem_of_getElem? (i := 1) rfl)) d17_144 (by first | rfl | decide) (by decide) (by decide) (by decide) (by decide) fun h168 a169 g168 z168 o168 K168 An168 => ?_
            have An168 : Ary Z h168 a169 .char [.int 0, .int 0, .int 0, .int 0, .int 0] := An168
            show C.W h168 [a169, a167] 2 9 (mkF K.m 146 #[.val (.ref a), .val (.int n)] [.ref a169, .ref a167, .ref a167])
            refine C.dup rfl d17_146 ?_
            refine C.iconst (v := (0 : Int32)) d17_147 (by first | rfl | decide) ?_
            refine C.aloadN d17_148 rfl rfl ?_
            refine C.bipush (v := (7 : Int32)) d17_149 (by first | rfl | decide) ?_
            have Aa_170 := ((Aa.keep K166 nin0).keep K168 nin0)
            refine C.caload (x := c7) 7 Aa_170 (by first | rfl | decide) rfl d17_151 ?_
            refine C.castore 0 An168 (by first | rfl | decide) (Nat.le_of_ble_eq_true rfl) (by omega) (by omega) d17_152 (List.mem_of_getElem? (i := 0) rfl) fun h171 z171 K171 Aw171 => ?_
            have Aw171 : Ary Z h171 a169 .char [.int c7, .int 0, .int 0, .int 0, .int 0] := Aw171
            show C.W h171 [a169, a167] 2 9 (mkF K.m 153 #[.val (.ref a), .val (.int n)] [.ref a169, .ref a167, .ref a167])
            refine C.dup rfl d17_153 ?_
            refine C.iconst (v := (1 : Int32)) d17_154 (by first | rfl | decide) ?_
            refine C.aloadN d17_155 rfl rfl ?_
            refine C.bipush (v := (8 : Int32)) d17_156 (by first | rfl | decide) ?_
            have Aa_172 := (Aa_170.keep K171 (ninS (neA (by omega)) nin0))
            refine C.caload (x := c8) 8 Aa_172 (by first | rfl | decide) rfl d17_158 ?_
            refine C.castore 1 Aw171 (by first | rfl | decide) (Nat.le_of_ble_eq_true rfl) (by omega) (by omega) d17_159 (List.mem_of_getElem? (i := 0) rfl) fun h173 z173 K173 Aw173 => ?_
            have Aw173 : Ary Z h173 a169 .char [.int c7, .int c8, .int 0, .int 0, .int 0] := Aw173
            show C.W h173 [a169, a167] 2 9 (mkF K.m 160 #[.val (.ref a), .val (.int n)] [.ref a169, .ref a167, .ref a167])
            refine C.dup rfl d17_160 ?_
            refine C.iconst (v := (2 : Int32)) d17_161 (by first | rfl | decide) ?_
            refine C.aloadN d17_162 rfl rfl ?_
            refine C.bipush (v := (9 : Int32)) d17_163 (by first | rfl | decide) ?_
            have Aa_174 := (Aa_172.keep K173 (ninS (neA (by omega)) nin0))
            refine C.caload (x := c9) 9 Aa_174 (by first | rfl | decide) rfl d17_165 ?_
            refine C.castore 2 Aw173 (by first | rfl | decide) (Nat.le_of_ble_eq_true rfl) (by omega) (by omega) d17_166 (List.mem_of_getElem? (i := 0) rfl) fun h175 z175 K175 Aw175 => ?_
            have Aw175 : Ary Z h175 a169 .char [.int c7, .int c8, .int c9, .int 0, .int 0] := Aw175
            show C.W h175 [a169, a167] 2 9 (mkF K.m 167 #[.val (.ref a), .val (.int n)] [.ref a169, .ref a167, .ref a167])
            refine C.dup rfl d17_167 ?_
            refine C.iconst (v := (3 : Int32)) d17_168 (by first | rfl | decide) ?_
            refine C.aloadN d17_169 rfl rfl ?_
            refine C.bipush (v := (10 : Int32)) d17_170 (by first | rfl | decide) ?_
            have Aa_176 := (Aa_174.keep K175 (ninS (neA (by omega)) nin0))
            refine C.caload (x := c10) 10 Aa_176 (by first | rfl | decide) rfl d17_172 ?_
            refine C.castore 3 Aw175 (by first | rfl | decide) (Nat.le_of_ble_eq_true rfl) (by omega) (by omega) d17_173 (List.mem_of_getElem? (i := 0) rfl) fun h177 z177 K177 Aw177 => ?_
            have Aw177 : Ary Z h177 a169 .char [.int c7, .int c8, .int c9, .int c10, .int 0] := Aw177
            show C.W h177 [a169, a167] 2 9 (mkF K.m 174 #[.val (.ref a), .val (.int n)] [.ref a169, .ref a167, .ref a167])
            refine C.dup rfl d17_174 ?_
            refine C.iconst (v := (4 : Int32)) d17_175 (by first | rfl | decide) ?_
            refine C.aloadN d17_176 rfl rfl ?_
            refine C.bipush (v := (11 : Int32)) d17_177 (by first | rfl | decide) ?_
            have Aa_178 := (Aa_176.keep K177 (ninS (neA (by omega)) nin0))
            refine C.caload (x := c11) 11 Aa_178 (by first | rfl | decide) rfl d17_179 ?_
            refine C.castore 4 Aw177 (by first | rfl | decide) (Nat.le_of_ble_eq_true rfl) (by omega) (by omega) d17_180 (List.mem_of_getElem? (i := 0) rfl) fun h179 z179 K179 Aw179 => ?_
            have Aw179 : Ary Z h179 a169 .char [.int c7, .int c8, .int c9, .int c10, .int c11] := Aw179
            show C.W h179 [a169, a167] 2 9 (mkF K.m 181 #[.val (.ref a), .val (.int n)] [.ref a169, .ref a167, .ref a167])
            have hdg : ∀ c ∈ ([c7, c8, c9, c10, c11] : List Int32), 48 ≤ c.toInt ∧ c.toInt ≤ 57 := by
              intro c hc
              simp only [List.mem_cons, List.not_mem_nil, or_false] at hc
              rcases hc with rfl | rfl | rfl | rfl | rfl <;> assumption
            have En166_180 := ((((((En166.keep K168).keep K171).keep K173).keep K175).keep K177).keep K179)
            have Fv_181 := ((((((Fv.keep K168 nin0).keep K171 (ninS (neA (by omega)) nin0)).keep K173 (ninS (neA (by omega)) nin0)).keep K175 (ninS (neA (by omega)) nin0)).keep K177 (ninS (neA (by omega)) nin0)).keep K179 (ninS (neA (by omega)) nin0))
            have Fc_182 := ((((((Fc.keep K168 nin0).keep K171 (ninS (neA (by omega)) nin0)).keep K173 (ninS (neA (by omega)) nin0)).keep K175 (ninS (neA (by omega)) nin0)).keep K177 (ninS (neA (by omega)) nin0)).keep K179 (ninS (neA (by omega)) nin0))
            refine C.callN a167 [.ref a169] [.ref a167] 1 (B.1 _ (List.mem_of_getElem? (i := 20) rfl)) (B.1 _ (List.mem_of_getElem? (i := 21) rfl)) (B.1 _ (List.mem_of_getElem? (i := 22) rfl)) rfl (by decide) pd__28__5b_C_29_V rfl id (c_init1 B (cs := [c7, c8, c9, c10, c11]) En166_180 Fv_181 Fc_182 Aw179 (Nat.le_of_ble_eq_true rfl) (fun c hc => by have := hdg c hc; omega) (Nat.le_of_ble_eq_true rfl)) d17_181 rfl rfl rfl (by decide) (by decide) (by decide) (by decide) (allS (List.mem_of_getElem? (i := 1) rfl) all0) fun v183 h183 z183 K183 q183 => ?_
            obtain ⟨rfl, S183⟩ := q183
            show C.W h183 [a169, a167] 3 21 (mkF K.m 184 #[.val (.ref a), .val (.int n)] [.ref a167])
            exact C.areturn rfl rfl rfl d17_184 (by decide) (by decide) ⟨a167, [c7, c8, c9, c10, c11], rfl, S183, by rw [cn]; rfl, hdg, by rw [cn, show ((10 : Int) ^ (5 : Int).toNat) = 100000 by decide]; exact dig5 E7 E8 E9 E10 E11⟩
        · have cn : n.toInt = 4 := by omega
          refine C.new (B.1 _ (List.mem_of_getElem? (i := 17) rfl)) (B.1 _ (List.mem_of_getElem? (i := 18) rfl)) (B.1 _ (List.mem_of_getElem? (i := 19) rfl)) d17_95 (by decide) (by decide) fun h184 a185 g184 z184 o184 K184 En184 Dn184 => ?_
          show C.W h184 [a185] 1 4 (mkF K.m 98 #[.val (.ref a), .val (.int n)] [.ref a185])
          have Fv : Fld Z h184 a185 "java/lang/String" "value" "[B" (.null) := Dn184 (Or.inr (B.1 _ (List.mem_of_getElem? (i := 45) rfl))) (ty := (.array .byte)) (by decide)
          have Fc : Fld Z h184 a185 "java/lang/String" "coder" "B" (.int 0) := Dn184 (Or.inr (B.1 _ (List.mem_of_getElem? (i := 43) rfl))) (ty := .byte) (by decide)
          refine C.dup rfl d17_98 ?_
          refine C.iconst (v := (4 : Int32)) d17_99 (by first | rfl | decide) ?_
          refine C.newarr 4 4 (B.1 _ (List.mem_of_getElem? (i := 1) rfl)) d17_100 (by first | rfl | decide) (by decide) (by decide) (by decide) (by decide) fun h186 a187 g186 z186 o186 K186 An186 => ?_
          have An186 : Ary Z h186 a187 .char [.int 0, .int 0, .int 0, .int 0] := An186
          show C.W h186 [a187, a185] 2 8 (mkF K.m 102 #[.val (.ref a), .val (.int n)] [.ref a187, .ref a185, .ref a185])
          refine C.dup rfl d17_102 ?_
          refine C.iconst (v := (0 : Int32)) d17_103 (by first | rfl | decide) ?_
          refine C.aloadN d17_104 rfl rfl ?_
          refine C.bipush (v := (8 : Int32)) d17_105 (by first | rfl | decide) ?_
          have Aa_188 := ((Aa.keep K184 nin0).keep K186 nin0)
          refine C.caload (x := c8) 8 Aa_188 (by first | rfl | decide) rfl d17_107 ?_
          refine C.castore 0 An186 (by first | rfl | decide) (Nat.le_of_ble_eq_true rfl) (by omega) (by omega) d17_108 (List.mem_of_getElem? (i := 0) rfl) fun h189 z189 K189 Aw189 => ?_
          have Aw189 : Ary Z h189 a187 .char [.int c8, .int 0, .int 0, .int 0] := Aw189
          show C.W h189 [a187, a185] 2 8 (mkF K.m 109 #[.val (.ref a), .val (.int n)] [.ref a187, .ref a185, .ref a185])
          refine C.dup rfl d17_109 ?_
          refine C.iconst (v := (1 : Int32)) d17_110 (by first | rfl | decide) ?_
          refine C.aloadN d17_111 rfl rfl ?_
          refine C.bipush (v := (9 : Int32)) d17_112 (by first | rfl | decide) ?_
          have Aa_190 := (Aa_188.keep K189 (ninS (neA (by omega)) nin0))
          refine C.caload (x := c9) 9 Aa_190 (by first | rfl | decide) rfl d17_114 ?_
          refine C.castore 1 Aw189 (by first | rfl | decide) (Nat.le_of_ble_eq_true rfl) (by omega) (by omega) d17_115 (List.mem_of_getElem? (i := 0) rfl) fun h191 z191 K191 Aw191 => ?_
          have Aw191 : Ary Z h191 a187 .char [.int c8, .int c9, .int 0, .int 0] := Aw191
          show C.W h191 [a187, a185] 2 8 (mkF K.m 116 #[.val (.ref a), .val (.int n)] [.ref a187, .ref a185, .ref a185])
          refine C.dup rfl d17_116 ?_
          refine C.iconst (v := (2 : Int32)) d17_117 (by first | rfl | decide) ?_
          refine C.aloadN d17_118 rfl rfl ?_
          refine C.bipush (v := (10 : Int32)) d17_119 (by first | rfl | decide) ?_
          have Aa_192 := (Aa_190.keep K191 (ninS (neA (by omega)) nin0))
          refine C.caload (x := c10) 10 Aa_192 (by first | rfl | decide) rfl d17_121 ?_
          refine C.castore 2 Aw191 (by first | rfl | decide) (Nat.le_of_ble_eq_true rfl) (by omega) (by omega) d17_122 (List.mem_of_getElem? (i := 0) rfl) fun h193 z193 K193 Aw193 => ?_
          have Aw193 : Ary Z h193 a187 .char [.int c8, .int c9, .int c10, .int 0] := Aw193
          show C.W h193 [a187, a185] 2 8 (mkF K.m 123 #[.val (.ref a), .val (.int n)] [.ref a187, .ref a185, .ref a185])
          refine C.dup rfl d17_123 ?_
          refine C.iconst (v := (3 : Int32)) d17_124 (by first | rfl | decide) ?_
          refine C.aloadN d17_125 rfl rfl ?_
          refine C.bipush (v := (11 : Int32)) d17_126 (by first | rfl | decide) ?_
          have Aa_194 := (Aa_192.keep K193 (ninS (neA (by omega)) nin0))
          refine C.caload (x := c11) 11 Aa_194 (by first | rfl | decide) rfl d17_128 ?_
          refine C.castore 3 Aw193 (by first | rfl | decide) (Nat.le_of_ble_eq_true rfl) (by omega) (by omega) d17_129 (List.mem_of_getElem? (i := 0) rfl) fun h195 z195 K195 Aw195 => ?_
          have Aw195 : Ary Z h195 a187 .char [.int c8, .int c9, .int c10, .int c11] := Aw195
          show C.W h195 [a187, a185] 2 8 (mkF K.m 130 #[.val (.ref a), .val (.int n)] [.ref a187, .ref a185, .ref a185])
          have hdg : ∀ c ∈ ([c8, c9, c10, c11] : List Int32), 48 ≤ c.toInt ∧ c.toInt ≤ 57 := by
            intro c hc
            simp only [List.mem_cons, List.not_mem_nil, or_false] at hc
            rcases hc with rfl | rfl | rfl | rfl <;> assumption
          have En184_196 := (((((En184.keep K186).keep K189).keep K191).keep K193).keep K195)
          have Fv_197 := (((((Fv.keep K186 nin0).keep K189 (ninS (neA (by omega)) nin0)).keep K191 (ninS (neA (by omega)) nin0)).keep K193 (ninS (neA (by omega)) nin0)).keep K195 (ninS (neA (by omega)) nin0))
          have Fc_198 := (((((Fc.keep K186 nin0).keep K189 (ninS (neA (by omega)) nin0)).keep K191 (ninS (neA (by omega)) nin0)).keep K193 (ninS (neA (by omega)) nin0)).keep K195 (ninS (neA (by omega)) nin0))
          refine C.callN a185 [.ref a187] [.ref a185] 1 (B.1 _ (List.mem_of_getElem? (i := 20) rfl)) (B.1 _ (List.mem_of_getElem? (i := 21) rfl)) (B.1 _ (List.mem_of_getElem? (i := 22) rfl)) rfl (by decide) pd__28__5b_C_29_V rfl id (c_init1 B (cs := [c8, c9, c10, c11]) En184_196 Fv_197 Fc_198 Aw195 (Nat.le_of_ble_eq_true rfl) (fun c hc => by have := hdg c hc; omega) (Nat.le_of_ble_eq_true rfl)) d17_130 rfl rfl rfl (by decide) (by decide) (by decide) (by decide) (allS (List.mem_of_getElem? (i := 1) rfl) all0) fun v199 h199 z199 K199 q199 => ?_
          obtain ⟨rfl, S199⟩ := q199
          show C.W h199 [a187, a185] 3 20 (mkF K.m 133 #[.val (.ref a), .val (.int n)] [.ref a185])
          exact C.areturn rfl rfl rfl d17_133 (by decide) (by decide) ⟨a185, [c8, c9, c10, c11], rfl, S199, by rw [cn]; rfl, hdg, by rw [cn, show ((10 : Int) ^ (4 : Int).toNat) = 10000 by decide]; exact dig4 E8 E9 E10 E11⟩
      · have cn : n.toInt = 3 := by omega
        refine C.new (B.1 _ (List.mem_of_getElem? (i := 17) rfl)) (B.1 _ (List.mem_of_getElem? (i := 18) rfl)) (B.1 _ (List.mem_of_getElem? (i := 19) rfl)) d17_58 (by decide) (by decide) fun h200 a201 g200 z200 o200 K200 En200 Dn200 => ?_
        show C.W h200 [a201] 1 4 (mkF K.m 61 #[.val (.ref a), .val (.int n)] [.ref a201])
        have Fv : Fld Z h200 a201 "java/lang/String" "value" "[B" (.null) := Dn200 (Or.inr (B.1 _ (List.mem_of_getElem? (i := 45) rfl))) (ty := (.array .byte)) (by decide)
        have Fc : Fld Z h200 a201 "java/lang/String" "coder" "B" (.int 0) := Dn200 (Or.inr (B.1 _ (List.mem_of_getElem? (i := 43) rfl))) (ty := .byte) (by decide)
        refine C.dup rfl d17_61 ?_
        refine C.iconst (v := (3 : Int32)) d17_62 (by first | rfl | decide) ?_
        refine C.newarr 3 3 (B.1 _ (List.mem_of_getElem? (i := 1) rfl)) d17_63 (by first | rfl | decide) (by decide) (by decide) (by decide) (by decide) fun h202 a203 g202 z202 o202 K202 An202 => ?_
        have An202 : Ary Z h202 a203 .char [.int 0, .int 0, .int 0] := An202
        show C.W h202 [a203, a201] 2 7 (mkF K.m 65 #[.val (.ref a), .val (.int n)] [.ref a203, .ref a201, .ref a201])
        refine C.dup rfl d17_65 ?_
        refine C.iconst (v := (0 : Int32)) d17_66 (by first | rfl | decide) ?_
        refine C.aloadN d17_67 rfl rfl ?_
        refine C.bipush (v := (9 : Int32)) d17_68 (by first | rfl | decide) ?_
        have Aa_204 := ((Aa.keep K200 nin0).keep K202 nin0)
        refine C.caload (x := c9) 9 Aa_204 (by first | rfl | decide) rfl d17_70 ?_
        refine C.castore 0 An202 (by first | rfl | decide) (Nat.le_of_ble_eq_true rfl) (by omega) (by omega) d17_71 (List.mem_of_getElem? (i := 0) rfl) fun h205 z205 K205 Aw205 => ?_
        have Aw205 : Ary Z h205 a203 .char [.int c9, .int 0, .int 0] := Aw205
        show C.W h205 [a203, a201] 2 7 (mkF K.m 72 #[.val (.ref a), .val (.int n)] [.ref a203, .ref a201, .ref a201])
        refine C.dup rfl d17_72 ?_
        refine C.iconst (v := (1 : Int32)) d17_73 (by first | rfl | decide) ?_
        refine C.aloadN d17_74 rfl rfl ?_
        refine C.bipush (v := (10 : Int32)) d17_75 (by first | rfl | decide) ?_
        have Aa_206 := (Aa_204.keep K205 (ninS (neA (by omega)) nin0))
        refine C.caload (x := c10) 10 Aa_206 (by first | rfl | decide) rfl d17_77 ?_
        refine C.castore 1 Aw205 (by first | rfl | decide) (Nat.le_of_ble_eq_true rfl) (by omega) (by omega) d17_78 (List.mem_of_getElem? (i := 0) rfl) fun h207 z207 K207 Aw207 => ?_
        have Aw207 : Ary Z h207 a203 .char [.int c9, .int c10, .int 0] := Aw207
        show C.W h207 [a203, a201] 2 7 (mkF K.m 79 #[.val (.ref a), .val (.int n)] [.ref a203, .ref a201, .ref a201])
        refine C.dup rfl d17_79 ?_
        refine C.iconst (v := (2 : Int32)) d17_80 (by first | rfl | decide) ?_
        refine C.aloadN d17_81 rfl rfl ?_
        refine C.bipush (v := (11 : Int32)) d17_82 (by first | rfl | decide) ?_
        have Aa_208 := (Aa_206.keep K207 (ninS (neA (by omega)) nin0))
        refine C.caload (x := c11) 11 Aa_208 (by first | rfl | decide) rfl d17_84 ?_
        refine C.castore 2 Aw207 (by first | rfl | decide) (Nat.le_of_ble_eq_true rfl) (by omega) (by omega) d17_85 (List.mem_of_getElem? (i := 0) rfl) fun h209 z209 K209 Aw209 => ?_
        have Aw209 : Ary Z h209 a203 .char [.int c9, .int c10, .int c11] := Aw209
        show C.W h209 [a203, a201] 2 7 (mkF K.m 86 #[.val (.ref a), .val (.int n)] [.ref a203, .ref a201, .ref a201])
        have hdg : ∀ c ∈ ([c9, c10, c11] : List Int32), 48 ≤ c.toInt ∧ c.toInt ≤ 57 := by
          intro c hc
          simp only [List.mem_cons, List.not_mem_nil, or_false] at hc
          rcases hc with rfl | rfl | rfl <;> assumption
        have En200_210 := ((((En200.keep K202).keep K205).keep K207).keep K209)
        have Fv_211 := ((((Fv.keep K202 nin0).keep K205 (ninS (neA (by omega)) nin0)).keep K207 (ninS (neA (by omega)) nin0)).keep K209 (ninS (neA (by omega)) nin0))
        have Fc_212 := ((((Fc.keep K202 nin0).keep K205 (ninS (neA (by omega)) nin0)).keep K207 (ninS (neA (by omega)) nin0)).keep K209 (ninS (neA (by omega)) nin0))
        refine C.callN a201 [.ref a203] [.ref a201] 1 (B.1 _ (List.mem_of_getElem? (i := 20) rfl)) (B.1 _ (List.mem_of_getElem? (i := 21) rfl)) (B.1 _ (List.mem_of_getElem? (i := 22) rfl)) rfl (by decide) pd__28__5b_C_29_V rfl id (c_init1 B (cs := [c9, c10, c11]) En200_210 Fv_211 Fc_212 Aw209 (Nat.le_of_ble_eq_true rfl) (fun c hc => by have := hdg c hc; omega) (Nat.le_of_ble_eq_true rfl)) d17_86 rfl rfl rfl (by decide) (by decide) (by decide) (by decide) (allS (List.mem_of_getElem? (i := 1) rfl) all0) fun v213 h213 z213 K213 q213 => ?_
        obtain ⟨rfl, S213⟩ := q213
        show C.W h213 [a203, a201] 3 19 (mkF K.m 89 #[.val (.ref a), .val (.int n)] [.ref a201])
        exact C.areturn rfl rfl rfl d17_89 (by decide) (by decide) ⟨a201, [c9, c10, c11], rfl, S213, by rw [cn]; rfl, hdg, by rw [cn, show ((10 : Int) ^ (3 : Int).toNat) = 1000 by decide]; exact dig3 E9 E10 E11⟩
    · have cn : n.toInt = 2 := by omega
      refine C.new (B.1 _ (List.mem_of_getElem? (i := 17) rfl)) (B.1 _ (List.mem_of_getElem? (i := 18) rfl)) (B.1 _ (List.mem_of_getElem? (i := 19) rfl)) d17_28 (by decide) (by decide) fun h214 a215 g214 z214 o214 K214 En214 Dn214 => ?_
      show C.W h214 [a215] 1 4 (mkF K.m 31 #[.val (.ref a), .val (.int n)] [.ref a215])
      have Fv : Fld Z h214 a215 "java/lang/String" "value" "[B" (.null) := Dn214 (Or.inr (B.1 _ (List.mem_of_getElem? (i := 45) rfl))) (ty := (.array .byte)) (by decide)
      have Fc : Fld Z h214 a215 "java/lang/String" "coder" "B" (.int 0) := Dn214 (Or.inr (B.1 _ (List.mem_of_getElem? (i := 43) rfl))) (ty := .byte) (by decide)
      refine C.dup rfl d17_31 ?_
      refine C.iconst (v := (2 : Int32)) d17_32 (by first | rfl | decide) ?_
      refine C.newarr 2 2 (B.1 _ (List.mem_of_getElem? (i := 1) rfl)) d17_33 (by first | rfl | decide) (by decide) (by decide) (by decide) (by decide) fun h216 a217 g216 z216 o216 K216 An216 => ?_
      have An216 : Ary Z h216 a217 .char [.int 0, .int 0] := An216
      show C.W h216 [a217, a215] 2 6 (mkF K.m 35 #[.val (.ref a), .val (.int n)] [.ref a217, .ref a215, .ref a215])
      refine C.dup rfl d17_35 ?_
      refine C.iconst (v := (0 : Int32)) d17_36 (by first | rfl | decide) ?_
      refine C.aloadN d17_37 rfl rfl ?_
      refine C.bipush (v := (10 : Int32)) d17_38 (by first | rfl | decide) ?_
      have Aa_218 := ((Aa.keep K214 nin0).keep K216 nin0)
      refine C.caload (x := c10) 10 Aa_218 (by first | rfl | decide) rfl d17_40 ?_
      refine C.castore 0 An216 (by first | rfl | decide) (Nat.le_of_ble_eq_true rfl) (by omega) (by omega) d17_41 (List.mem_of_getElem? (i := 0) rfl) fun h219 z219 K219 Aw219 => ?_
      have Aw219 : Ary Z h219 a217 .char [.int c10, .int 0] := Aw219
      show C.W h219 [a217, a215] 2 6 (mkF K.m 42 #[.val (.ref a), .val (.int n)] [.ref a217, .ref a215, .ref a215])
      refine C.dup rfl d17_42 ?_
      refine C.iconst (v := (1 : Int32)) d17_43 (by first | rfl | decide) ?_
      refine C.aloadN d17_44 rfl rfl ?_
      refine C.bipush (v := (11 : Int32)) d17_45 (by first | rfl | decide) ?_
      have Aa_220 := (Aa_218.keep K219 (ninS (neA (by omega)) nin0))
      refine C.caload (x := c11) 11 Aa_220 (by first | rfl | decide) rfl d17_47 ?_
      refine C.castore 1 Aw219 (by first | rfl | decide) (Nat.le_of_ble_eq_true rfl) (by omega) (by omega) d17_48 (List.mem_of_getElem? (i := 0) rfl) fun h221 z221 K221 Aw221 => ?_
      have Aw221 : Ary Z h221 a217 .char [.int c10, .int c11] := Aw221
      show C.W h221 [a217, a215] 2 6 (mkF K.m 49 #[.val (.ref a), .val (.int n)] [.ref a217, .ref a215, .ref a215])
      have hdg : ∀ c ∈ ([c10, c11] : List Int32), 48 ≤ c.toInt ∧ c.toInt ≤ 57 := by
        intro c hc
        simp only [List.mem_cons, List.not_mem_nil, or_false] at hc
        rcases hc with rfl | rfl <;> assumption
      have En214_222 := (((En214.keep K216).keep K219).keep K221)
      have Fv_223 := (((Fv.keep K216 nin0).keep K219 (ninS (neA (by omega)) nin0)).keep K221 (ninS (neA (by omega)) nin0))
      have Fc_224 := (((Fc.keep K216 nin0).keep K219 (ninS (neA (by omega)) nin0)).keep K221 (ninS (neA (by omega)) nin0))
      refine C.callN a215 [.ref a217] [.ref a215] 1 (B.1 _ (List.mem_of_getElem? (i := 20) rfl)) (B.1 _ (List.mem_of_getElem? (i := 21) rfl)) (B.1 _ (List.mem_of_getElem? (i := 22) rfl)) rfl (by decide) pd__28__5b_C_29_V rfl id (c_init1 B (cs := [c10, c11]) En214_222 Fv_223 Fc_224 Aw221 (Nat.le_of_ble_eq_true rfl) (fun c hc => by have := hdg c hc; omega) (Nat.le_of_ble_eq_true rfl)) d17_49 rfl rfl rfl (by decide) (by decide) (by decide) (by decide) (allS (List.mem_of_getElem? (i := 1) rfl) all0) fun v225 h225 z225 K225 q225 => ?_
      obtain ⟨rfl, S225⟩ := q225
      show C.W h225 [a217, a215] 3 18 (mkF K.m 52 #[.val (.ref a), .val (.int n)] [.ref a215])
      exact C.areturn rfl rfl rfl d17_52 (by decide) (by decide) ⟨a215, [c10, c11], rfl, S225, by rw [cn]; rfl, hdg, by rw [cn, show ((10 : Int) ^ (2 : Int).toNat) = 100 by decide]; exact dig2 E10 E11⟩
  · have cn : n.toInt = 1 := by omega
    refine C.new (B.1 _ (List.mem_of_getElem? (i := 17) rfl)) (B.1 _ (List.mem_of_getElem? (i := 18) rfl)) (B.1 _ (List.mem_of_getElem? (i := 19) rfl)) d17_5 (by decide) (by decide) fun h226 a227 g226 z226 o226 K226 En226 Dn226 => ?_
    show C.W h226 [a227] 1 4 (mkF K.m 8 #[.val (.ref a), .val (.int n)] [.ref a227])
    have Fv : Fld Z h226 a227 "java/lang/String" "value" "[B" (.null) := Dn226 (Or.inr (B.1 _ (List.mem_of_getElem? (i := 45) rfl))) (ty := (.array .byte)) (by decide)
    have Fc : Fld Z h226 a227 "java/lang/String" "coder" "B" (.int 0) := Dn226 (Or.inr (B.1 _ (List.mem_of_getElem? (i := 43) rfl))) (ty := .byte) (by decide)
    refine C.dup rfl d17_8 ?_
    refine C.iconst (v := (1 : Int32)) d17_9 (by first | rfl | decide) ?_
    refine C.newarr 1 1 (B.1 _ (List.mem_of_getElem? (i := 1) rfl)) d17_10 (by first | rfl | decide) (by decide) (by decide) (by decide) (by decide) fun h228 a229 g228 z228 o228 K228 An228 => ?_
    have An228 : Ary Z h228 a229 .char [.int 0] := An228
    show C.W h228 [a229, a227] 2 5 (mkF K.m 12 #[.val (.ref a), .val (.int n)] [.ref a229, .ref a227, .ref a227])
    refine C.dup rfl d17_12 ?_
    refine C.iconst (v := (0 : Int32)) d17_13 (by first | rfl | decide) ?_
    refine C.aloadN d17_14 rfl rfl ?_
    refine C.bipush (v := (11 : Int32)) d17_15 (by first | rfl | decide) ?_
    have Aa_230 := ((Aa.keep K226 nin0).keep K228 nin0)
    refine C.caload (x := c11) 11 Aa_230 (by first | rfl | decide) rfl d17_17 ?_
    refine C.castore 0 An228 (by first | rfl | decide) (Nat.le_of_ble_eq_true rfl) (by omega) (by omega) d17_18 (List.mem_of_getElem? (i := 0) rfl) fun h231 z231 K231 Aw231 => ?_
    have Aw231 : Ary Z h231 a229 .char [.int c11] := Aw231
    show C.W h231 [a229, a227] 2 5 (mkF K.m 19 #[.val (.ref a), .val (.int n)] [.ref a229, .ref a227, .ref a227])
    have hdg : ∀ c ∈ ([c11] : List Int32), 48 ≤ c.toInt ∧ c.toInt ≤ 57 := by
      intro c hc
      simp only [List.mem_cons, List.not_mem_nil, or_false] at hc
      rcases hc with rfl <;> assumption
    have En226_232 := ((En226.keep K228).keep K231)
    have Fv_233 := ((Fv.keep K228 nin0).keep K231 (ninS (neA (by omega)) nin0))
    have Fc_234 := ((Fc.keep K228 nin0).keep K231 (ninS (neA (by omega)) nin0))
    refine C.callN a227 [.ref a229] [.ref a227] 1 (B.1 _ (List.mem_of_getElem? (i := 20) rfl)) (B.1 _ (List.mem_of_getElem? (i := 21) rfl)) (B.1 _ (List.mem_of_getElem? (i := 22) rfl)) rfl (by decide) pd__28__5b_C_29_V rfl id (c_init1 B (cs := [c11]) En226_232 Fv_233 Fc_234 Aw231 (Nat.le_of_ble_eq_true rfl) (fun c hc => by have := hdg c hc; omega) (Nat.le_of_ble_eq_true rfl)) d17_19 rfl rfl rfl (by decide) (by decide) (by decide) (by decide) (allS (List.mem_of_getElem? (i := 1) rfl) all0) fun v235 h235 z235 K235 q235 => ?_
    obtain ⟨rfl, S235⟩ := q235
    show C.W h235 [a229, a227] 3 17 (mkF K.m 22 #[.val (.ref a), .val (.int n)] [.ref a227])
    exact C.areturn rfl rfl rfl d17_22 (by decide) (by decide) ⟨a227, [c11], rfl, S235, by rw [cn]; rfl, hdg, by rw [cn, show ((10 : Int) ^ (1 : Int).toNat) = 10 by decide]; exact dig1 E11⟩
set_option maxRecDepth 65536 in
set_option maxHeartbeats 40000000 in
theorem c_rninit  (B : Base Z a0) {h : Heap} {a : Nat} {u : Int32} (h1 : 1 ≤ u.toInt) (Ea : Exa Z h a "com/example/quire/quire/catalogue/RecordNumber") (F0 : Fld Z h a "com/example/quire/quire/catalogue/RecordNumber" "value" "I" (.int 0)) : Con l Z a0 EL it n0 (⟨"com/example/quire/quire/catalogue/RecordNumber", "<init>", "(I)V"⟩ : MethodName) 3 37 0 0 #[.ref a, .int u] h [a] (fun v h' => v = none ∧ Exa Z h' a "com/example/quire/quire/catalogue/RecordNumber" ∧ Fld Z h' a "com/example/quire/quire/catalogue/RecordNumber" "value" "I" (.int u)) := by
  refine Met.con (bytes := prog_12_method_1_code) (maxL := 2) (ret := none) (rm := ({ frames := 2, cells := 0, slots := 0, locals := 24 } : Room)) (Met.of (own := "com/example/quire/quire/catalogue/RecordNumber") (nm := "<init>") #[.val (.ref a), .val (.int u)] (ew B) rfl rfl (plainFor_of_name pn_com_example_quire_quire_catalogue_RecordNumber) (fun m => by first | (simp [entryFrame, mkF, argsToLocals, Value.category]; done) | rfl) fun K C => ?_) (B.1 _ (List.mem_of_getElem? (i := 103) rfl)) (B.1 _ (List.mem_of_getElem? (i := 48) rfl)) rfl rfl rfl rfl
  have k1 : (1 : Int32).toInt = 1 := by decide
  refine C.aloadN d18_0 rfl rfl ?_
  refine C.callN a [] [] 0 (B.1 _ (List.mem_of_getElem? (i := 104) rfl)) (B.1 _ (List.mem_of_getElem? (i := 105) rfl)) (B.1 _ (List.mem_of_getElem? (i := 108) rfl)) rfl (by decide) pd__28__29_V rfl id (c_recinit B) d18_1 rfl rfl rfl (by decide) (by decide) (by decide) (by decide) all0 fun v1 h1 z1 K1 q1 => ?_
  obtain ⟨rfl, rfl⟩ := q1
  show C.W h [a] 0 0 (mkF K.m 4 #[.val (.ref a), .val (.int u)] [])
  refine C.iloadN d18_4 rfl ?_
  refine C.iconst (v := (1 : Int32)) d18_5 (by first | rfl | decide) ?_
  refine C.icmp_ge 23 d18_6 (by decide) (by decide) (fun q2 => ?_) (fun q2 => ?_)
  · refine C.aloadN d18_23 rfl rfl ?_
    refine C.iloadN d18_24 rfl ?_
    refine C.putF (host := "") (Or.inl (B.1 _ (List.mem_of_getElem? (i := 110) rfl))) Via.refl F0 Ea (Or.inr ⟨(B.1 _ (List.mem_of_getElem? (i := 111) rfl)), rfl, rfl⟩) (B.1 _ (List.mem_of_getElem? (i := 51) rfl)) (ty := .int) (by decide) rfl rfl d18_25 (List.mem_of_getElem? (i := 0) rfl) fun h3 z3 K3 Ew3 Fw3 Gw3 => ?_
    show C.W h3 [a] 0 0 (mkF K.m 28 #[.val (.ref a), .val (.int u)] [])
    exact C.return_ rfl d18_28 (by decide) (by decide) ⟨rfl, Ew3, Fw3⟩
  · exfalso; omega
set_option maxRecDepth 65536 in
set_option maxHeartbeats 40000000 in
theorem c_val  (B : Base Z a0) {h : Heap} {a : Nat} {u : Int32} (F0 : Fld Z h a "com/example/quire/quire/catalogue/RecordNumber" "value" "I" (.int u)) : Con l Z a0 EL it n0 (⟨"com/example/quire/quire/catalogue/RecordNumber", "value", "()I"⟩ : MethodName) 1 12 0 0 #[.ref a] h [] (fun v h' => v = some (.int u) ∧ h = h') := by
  refine Met.con (bytes := prog_12_method_6_code) (maxL := 1) (ret := (some .int)) (rm := ({ frames := 0, cells := 0, slots := 0, locals := 0 } : Room)) (Met.of (own := "com/example/quire/quire/catalogue/RecordNumber") (nm := "value") #[.val (.ref a)] (ew B) rfl rfl (plainFor_of_name pn_com_example_quire_quire_catalogue_RecordNumber) (fun m => by first | (simp [entryFrame, mkF, argsToLocals, Value.category]; done) | rfl) fun K C => ?_) (B.1 _ (List.mem_of_getElem? (i := 116) rfl)) (B.1 _ (List.mem_of_getElem? (i := 48) rfl)) rfl rfl rfl rfl
  refine C.aloadN d19_0 rfl rfl ?_
  refine C.getF (host := "") (Or.inl (B.1 _ (List.mem_of_getElem? (i := 110) rfl))) Via.refl F0 d19_1 ?_
  exact C.ireturn (t := .int) rfl (by simp) rfl d19_4 (by decide) (by decide) ⟨rfl, rfl⟩
set_option maxRecDepth 65536 in
set_option maxHeartbeats 40000000 in
theorem c_parse2  (B : Base Z a0) {h : Heap} {N x y : Nat} {cs : List Int32} (S : Str Z h N x cs) (hl : 0 < cs.length ∧ cs.length ≤ 12) (hd : ∀ c ∈ cs, 48 ≤ c.toInt ∧ c.toInt ≤ 57) (w1 : 1 ≤ dv 0 cs) (w2 : dv 0 cs ≤ 2147483647) : Con l Z a0 EL it n0 (⟨"com/example/quire/quire/catalogue/WholeNumber", "parse", "(Ljava/lang/String;Ljava/lang/String;)I"⟩ : MethodName) 6 85 0 0 #[.ref x, .ref y] h [] (fun v h' => ∃ r : Int32, v = some (.int r) ∧ r.toInt = dv 0 cs ∧ h = h') := by
  refine Met.con (bytes := prog_19_method_2_code) (maxL := 2) (ret := (some .int)) (rm := ({ frames := 5, cells := 0, slots := 0, locals := 72 } : Room)) (Met.of (own := "com/example/quire/quire/catalogue/WholeNumber") (nm := "parse") #[.val (.ref x), .val (.ref y)] (ew B) rfl rfl (plainFor_of_name pn_com_example_quire_quire_catalogue_WholeNumber) (fun m => by first | (simp [entryFrame, mkF, argsToLocals, Value.category]; done) | rfl) fun K C => ?_) (B.1 _ (List.mem_of_getElem? (i := 58) rfl)) (B.1 _ (List.mem_of_getElem? (i := 57) rfl)) rfl rfl rfl rfl
  refine C.aloadN d20_0 rfl rfl ?_
  refine C.aloadN d20_1 rfl rfl ?_
  refine C.iconst (v := (1 : Int32)) d20_2 (by first | rfl | decide) ?_
  refine C.ldcInt (v := (2147483647 : Int32)) (B.1 _ (List.mem_of_getElem? (i := 59) rfl)) d20_3 ?_
  refine C.callS [.ref x, .ref y, .int (1 : Int32), .int (2147483647 : Int32)] [] 0 (B.1 _ (List.mem_of_getElem? (i := 60) rfl)) (B.1 _ (List.mem_of_getElem? (i := 61) rfl)) (B.1 _ (List.mem_of_getElem? (i := 57) rfl)) (B.1 _ (List.mem_of_getElem? (i := 62) rfl)) (by decide) pd__28_Ljava_2f_lang_2f_String_3b_Ljava_2f_lang_2f_String_3b_II_29_I rfl id (c_parse B (mn := 1) (mx := 2147483647) S hl hd w1 w2) d20_5 rfl rfl rfl (by decide) (by decide) (by decide) (by decide) all0 fun v1 h1 z1 K1 q1 => ?_
  obtain ⟨r, rfl, hr, rfl⟩ := q1
  show C.W h [] 0 0 (mkF K.m 8 #[.val (.ref x), .val (.ref y)] [.int r])
  exact C.ireturn (t := .int) rfl (by simp) rfl d20_8 (by decide) (by decide) ⟨r, rfl, hr, rfl⟩
set_option maxRecDepth 65536 in
set_option maxHeartbeats 40000000 in
theorem c_rnparse  (B : Base Z a0) (hit : it) {h : Heap} {N x : Nat} {cs : List Int32} (S : Str Z h N x cs) (hl : 0 < cs.length ∧ cs.length ≤ 12) (hd : ∀ c ∈ cs, 48 ≤ c.toInt ∧ c.toInt ≤ 57) (w1 : 1 ≤ dv 0 cs) (w2 : dv 0 cs ≤ 2147483647) : Con l Z a0 EL it n0 (⟨"com/example/quire/quire/catalogue/RecordNumber", "parse", "(Ljava/lang/String;)Lcom/example/quire/quire/catalogue/RecordNumber;"⟩ : MethodName) 7 99 3 57 #[.ref x] h [] (fun v h' => ∃ (a : Nat) (r : Int32), v = some (.ref a) ∧ r.toInt = dv 0 cs ∧ Exa Z h' a "com/example/quire/quire/catalogue/RecordNumber" ∧ Fld Z h' a "com/example/quire/quire/catalogue/RecordNumber" "value" "I" (.int r)) := by
  refine Met.con (bytes := prog_12_method_2_code) (maxL := 1) (ret := (some (.object "com/example/quire/quire/catalogue/RecordNumber"))) (rm := ({ frames := 6, cells := 3, slots := 57, locals := 87 } : Room)) (Met.of (own := "com/example/quire/quire/catalogue/RecordNumber") (nm := "parse") #[.val (.ref x)] (ew B) rfl rfl (plainFor_of_name pn_com_example_quire_quire_catalogue_RecordNumber) (fun m => by first | (simp [entryFrame, mkF, argsToLocals, Value.category]; done) | rfl) fun K C => ?_) (B.1 _ (List.mem_of_getElem? (i := 49) rfl)) (B.1 _ (List.mem_of_getElem? (i := 48) rfl)) rfl rfl rfl rfl
  have lS := S.lt
  refine C.new (B.1 _ (List.mem_of_getElem? (i := 50) rfl)) (B.1 _ (List.mem_of_getElem? (i := 51) rfl)) (B.1 _ (List.mem_of_getElem? (i := 48) rfl)) d21_0 (by decide) (by decide) fun h1 a2 g1 z1 o1 K1 En1 Dn1 => ?_
  show C.W h1 [a2] 1 1 (mkF K.m 3 #[.val (.ref x)] [.ref a2])
  have G : Fld Z h1 a2 "com/example/quire/quire/catalogue/RecordNumber" "value" "I" (.int 0) := Dn1 (Or.inr (B.1 _ (List.mem_of_getElem? (i := 111) rfl))) (ty := .int) (by decide)
  refine C.dup rfl d21_3 ?_
  refine C.aloadN d21_4 rfl rfl ?_
  refine C.ldcO hit 52 (B.1 _ (List.mem_of_getElem? (i := 52) rfl)) (sA B) (by decide) (by decide) d21_5 (by decide) (by decide) fun h3 s3 z3 K3 => ?_
  show C.W h3 [a2] 3 57 (mkF K.m 7 #[.val (.ref x)] [.ref s3, .ref x, .ref a2, .ref a2])
  have S_4 := ((S.keep K1 all0).keep K3 all0)
  refine C.callS [.ref x, .ref s3] [.ref a2, .ref a2] 2 (B.1 _ (List.mem_of_getElem? (i := 55) rfl)) (B.1 _ (List.mem_of_getElem? (i := 56) rfl)) (B.1 _ (List.mem_of_getElem? (i := 57) rfl)) (B.1 _ (List.mem_of_getElem? (i := 58) rfl)) (by decide) pd__28_Ljava_2f_lang_2f_String_3b_Ljava_2f_lang_2f_String_3b__29_I rfl id (c_parse2 B S_4 hl hd w1 w2) d21_7 rfl rfl rfl (by decide) (by decide) (by decide) (by decide) all0 fun v5 h5 z5 K5 q5 => ?_
  obtain ⟨r, rfl, hr, rfl⟩ := q5
  show C.W h3 [a2] 3 57 (mkF K.m 10 #[.val (.ref x)] [.int r, .ref a2, .ref a2])
  have En1_6 := (En1.keep K3)
  have G_7 := (G.keep K3 nin0)
  refine C.callN a2 [.int r] [.ref a2] 1 (B.1 _ (List.mem_of_getElem? (i := 101) rfl)) (B.1 _ (List.mem_of_getElem? (i := 102) rfl)) (B.1 _ (List.mem_of_getElem? (i := 103) rfl)) rfl (by decide) pd__28_I_29_V rfl id (c_rninit B (by omega) En1_6 G_7) d21_10 rfl rfl rfl (by decide) (by decide) (by decide) (by decide) (allS (List.mem_of_getElem? (i := 0) rfl) all0) fun v8 h8 z8 K8 q8 => ?_
  obtain ⟨rfl, Et, G1⟩ := q8
  show C.W h8 [a2] 3 57 (mkF K.m 13 #[.val (.ref x)] [.ref a2])
  exact C.areturn rfl rfl rfl d21_13 (by decide) (by decide) ⟨a2, r, rfl, hr, Et, G1⟩
theorem pow_le {a b : Nat} (h : a ≤ b) : (10 : Int) ^ a ≤ 10 ^ b := by
  obtain ⟨k, rfl⟩ := Nat.le.dest h
  rw [Int.pow_add]
  have p : ∀ n : Nat, (0 : Int) < 10 ^ n := fun n => Int.pow_pos (by decide)
  have := p a
  have := p k
  have q := Int.mul_le_mul_of_nonneg_left (show (1 : Int) ≤ 10 ^ k by omega) (show (0 : Int) ≤ 10 ^ a by omega)
  omega
set_option maxRecDepth 65536 in
set_option maxHeartbeats 40000000 in
theorem m_law  (B : Base Z a0) {p0 p1 : Int32} {h : Heap} : Met l Z EL True n0 x code maxLocals Jvm.Pilot.@@N@@.ret room_1 tables_1 #[.int p0, .int p1] h [] (fun v h' => v = some (.int 1)) := by
  refine Met.of (own := "com/example/quire/quire/catalogue/RecordNumberParsePinLaw") (nm := "law") #[.val (.int p0), .val (.int p1), .unset, .unset, .unset, .unset, .unset, .unset] (ew B) rfl rfl (plainFor_of_name pn_com_example_quire_quire_catalogue_RecordNumberParsePinLaw) (fun m => by first | (simp [entryFrame, mkF, argsToLocals, Value.category, maxLocals]; done) | rfl) fun K C => ?_
  refine C.iloadN at_0 rfl ?_
  refine C.ldcInt (v := (2147483647 : Int32)) (B.1 _ (List.mem_of_getElem? (i := 0) rfl)) at_1 ?_
  refine C.iand at_3 ?_
  obtain ⟨u, e_u⟩ : ∃ z, (p0 &&& (2147483647 : Int32)) = z := ⟨_, rfl⟩
  refine C.topI e_u ?_
  have hu : 0 ≤ u.toInt ∧ u.toInt < 2147483648 := ⟨by rw [← e_u]; exact and_pos p0, Int32.toInt_lt u⟩
  refine C.istoreN #[.val (.int p0), .val (.int p1), .val (.int u), .unset, .unset, .unset, .unset, .unset] at_4 rfl ?_
  refine C.iloadN at_5 rfl ?_
  refine C.ifc_ne 11 at_6 (by decide) (by decide) (fun q1 => ?_) (fun q1 => ?_)
  · refine C.iloadN at_11 rfl ?_
    refine C.ldcInt (v := (2147483647 : Int32)) (B.1 _ (List.mem_of_getElem? (i := 0) rfl)) at_12 ?_
    refine C.iand at_14 ?_
    refine C.iconst (v := (3 : Int32)) at_15 (by first | rfl | decide) ?_
    refine C.irem (by decide) at_16 ?_
    obtain ⟨e, e_e⟩ : ∃ z, ((p1 &&& (2147483647 : Int32)) % (3 : Int32)) = z := ⟨_, rfl⟩
    refine C.topI e_e ?_
    have he : 0 ≤ e.toInt ∧ e.toInt < 3 := by
      have q := rem_pos (y := 3) 3 (and_pos p1) (by decide) (by decide)
      rw [e_e] at q
      omega
    refine C.istoreN #[.val (.int p0), .val (.int p1), .val (.int u), .val (.int e), .unset, .unset, .unset, .unset] at_17 rfl ?_
    refine C.bipush (v := (12 : Int32)) at_18 (by first | rfl | decide) ?_
    refine C.newarr 12 12 (B.1 _ (List.mem_of_getElem? (i := 1) rfl)) at_20 (by first | rfl | decide) (by decide) (by decide) (by decide) (by decide) fun h2 a3 g2 z2 o2 K2 An2 => ?_
    have An2 : Ary Z h2 a3 .char [.int 0, .int 0, .int 0, .int 0, .int 0, .int 0, .int 0, .int 0, .int 0, .int 0, .int 0, .int 0] := An2
    show C.W h2 [a3] 1 12 (mkF K.m 22 #[.val (.int p0), .val (.int p1), .val (.int u), .val (.int e), .unset, .unset, .unset, .unset] [.ref a3])
    refine C.astore #[.val (.int p0), .val (.int p1), .val (.int u), .val (.int e), .val (.ref a3), .unset, .unset, .unset] at_22 rfl rfl ?_
    refine C.aload at_24 rfl rfl ?_
    refine C.iconst (v := (0 : Int32)) at_26 (by first | rfl | decide) ?_
    refine C.bipush (v := (48 : Int32)) at_27 (by first | rfl | decide) ?_
    refine C.castore 0 An2 (by first | rfl | decide) (Nat.le_of_ble_eq_true rfl) (by decide) (by decide) at_29 (List.mem_of_getElem? (i := 0) rfl) fun h4 z4 K4 Aw4 => ?_
    have Aw4 : Ary Z h4 a3 .char [.int (48 : Int32), .int 0, .int 0, .int 0, .int 0, .int 0, .int 0, .int 0, .int 0, .int 0, .int 0, .int 0] := Aw4
    show C.W h4 [a3] 1 12 (mkF K.m 30 #[.val (.int p0), .val (.int p1), .val (.int u), .val (.int e), .val (.ref a3), .unset, .unset, .unset] [])
    refine C.aload at_30 rfl rfl ?_
    refine C.iconst (v := (1 : Int32)) at_32 (by first | rfl | decide) ?_
    refine C.bipush (v := (48 : Int32)) at_33 (by first | rfl | decide) ?_
    refine C.castore 1 Aw4 (by first | rfl | decide) (Nat.le_of_ble_eq_true rfl) (by decide) (by decide) at_35 (List.mem_of_getElem? (i := 0) rfl) fun h5 z5 K5 Aw5 => ?_
    have Aw5 : Ary Z h5 a3 .char [.int (48 : Int32), .int (48 : Int32), .int 0, .int 0, .int 0, .int 0, .int 0, .int 0, .int 0, .int 0, .int 0, .int 0] := Aw5
    show C.W h5 [a3] 1 12 (mkF K.m 36 #[.val (.int p0), .val (.int p1), .val (.int u), .val (.int e), .val (.ref a3), .unset, .unset, .unset] [])
    refine C.aload at_36 rfl rfl ?_
    refine C.iconst (v := (2 : Int32)) at_38 (by first | rfl | decide) ?_
    refine C.iloadN at_39 rfl ?_
    refine C.ldcInt (v := (1000000000 : Int32)) (B.1 _ (List.mem_of_getElem? (i := 2) rfl)) at_40 ?_
    refine C.callS [.int u, .int (1000000000 : Int32)] [.int (2 : Int32), .ref a3] 2 (B.1 _ (List.mem_of_getElem? (i := 3) rfl)) (B.1 _ (List.mem_of_getElem? (i := 4) rfl)) (B.1 _ (List.mem_of_getElem? (i := 5) rfl)) (B.1 _ (List.mem_of_getElem? (i := 6) rfl)) (by decide) pd__28_II_29_C rfl id (c_dig B (u := u) (p := (1000000000 : Int32)) hu.1 (by decide)) at_42 rfl rfl rfl (by decide) (by decide) (by decide) (by decide) all0 fun v6 h6 z6 K6 q6 => ?_
    obtain ⟨c2, rfl, g2, D2, rfl⟩ := q6
    show C.W h5 [a3] 1 12 (mkF K.m 45 #[.val (.int p0), .val (.int p1), .val (.int u), .val (.int e), .val (.ref a3), .unset, .unset, .unset] [.int c2, .int (2 : Int32), .ref a3])
    refine C.castore 2 Aw5 (by first | rfl | decide) (Nat.le_of_ble_eq_true rfl) (by omega) (by omega) at_45 (List.mem_of_getElem? (i := 0) rfl) fun h7 z7 K7 Aw7 => ?_
    have Aw7 : Ary Z h7 a3 .char [.int (48 : Int32), .int (48 : Int32), .int c2, .int 0, .int 0, .int 0, .int 0, .int 0, .int 0, .int 0, .int 0, .int 0] := Aw7
    show C.W h7 [a3] 1 12 (mkF K.m 46 #[.val (.int p0), .val (.int p1), .val (.int u), .val (.int e), .val (.ref a3), .unset, .unset, .unset] [])
    refine C.aload at_46 rfl rfl ?_
    refine C.iconst (v := (3 : Int32)) at_48 (by first | rfl | decide) ?_
    refine C.iloadN at_49 rfl ?_
    refine C.ldcInt (v := (100000000 : Int32)) (B.1 _ (List.mem_of_getElem? (i := 7) rfl)) at_50 ?_
    refine C.callS [.int u, .int (100000000 : Int32)] [.int (3 : Int32), .ref a3] 2 (B.1 _ (List.mem_of_getElem? (i := 3) rfl)) (B.1 _ (List.mem_of_getElem? (i := 4) rfl)) (B.1 _ (List.mem_of_getElem? (i := 5) rfl)) (B.1 _ (List.mem_of_getElem? (i := 6) rfl)) (by decide) pd__28_II_29_C rfl id (c_dig B (u := u) (p := (100000000 : Int32)) hu.1 (by decide)) at_52 rfl rfl rfl (by decide) (by decide) (by decide) (by decide) all0 fun v8 h8 z8 K8 q8 => ?_
    obtain ⟨c3, rfl, g3, D3, rfl⟩ := q8
    show C.W h7 [a3] 1 12 (mkF K.m 55 #[.val (.int p0), .val (.int p1), .val (.int u), .val (.int e), .val (.ref a3), .unset, .unset, .unset] [.int c3, .int (3 : Int32), .ref a3])
    refine C.castore 3 Aw7 (by first | rfl | decide) (Nat.le_of_ble_eq_true rfl) (by omega) (by omega) at_55 (List.mem_of_getElem? (i := 0) rfl) fun h9 z9 K9 Aw9 => ?_
    have Aw9 : Ary Z h9 a3 .char [.int (48 : Int32), .int (48 : Int32), .int c2, .int c3, .int 0, .int 0, .int 0, .int 0, .int 0, .int 0, .int 0, .int 0] := Aw9
    show C.W h9 [a3] 1 12 (mkF K.m 56 #[.val (.int p0), .val (.int p1), .val (.int u), .val (.int e), .val (.ref a3), .unset, .unset, .unset] [])
    refine C.aload at_56 rfl rfl ?_
    refine C.iconst (v := (4 : Int32)) at_58 (by first | rfl | decide) ?_
    refine C.iloadN at_59 rfl ?_
    refine C.ldcInt (v := (10000000 : Int32)) (B.1 _ (List.mem_of_getElem? (i := 8) rfl)) at_60 ?_
    refine C.callS [.int u, .int (10000000 : Int32)] [.int (4 : Int32), .ref a3] 2 (B.1 _ (List.mem_of_getElem? (i := 3) rfl)) (B.1 _ (List.mem_of_getElem? (i := 4) rfl)) (B.1 _ (List.mem_of_getElem? (i := 5) rfl)) (B.1 _ (List.mem_of_getElem? (i := 6) rfl)) (by decide) pd__28_II_29_C rfl id (c_dig B (u := u) (p := (10000000 : Int32)) hu.1 (by decide)) at_62 rfl rfl rfl (by decide) (by decide) (by decide) (by decide) all0 fun v10 h10 z10 K10 q10 => ?_
    obtain ⟨c4, rfl, g4, D4, rfl⟩ := q10
    show C.W h9 [a3] 1 12 (mkF K.m 65 #[.val (.int p0), .val (.int p1), .val (.int u), .val (.int e), .val (.ref a3), .unset, .unset, .unset] [.int c4, .int (4 : Int32), .ref a3])
    refine C.castore 4 Aw9 (by first | rfl | decide) (Nat.le_of_ble_eq_true rfl) (by omega) (by omega) at_65 (List.mem_of_getElem? (i := 0) rfl) fun h11 z11 K11 Aw11 => ?_
    have Aw11 : Ary Z h11 a3 .char [.int (48 : Int32), .int (48 : Int32), .int c2, .int c3, .int c4, .int 0, .int 0, .int 0, .int 0, .int 0, .int 0, .int 0] := Aw11
    show C.W h11 [a3] 1 12 (mkF K.m 66 #[.val (.int p0), .val (.int p1), .val (.int u), .val (.int e), .val (.ref a3), .unset, .unset, .unset] [])
    refine C.aload at_66 rfl rfl ?_
    refine C.iconst (v := (5 : Int32)) at_68 (by first | rfl | decide) ?_
    refine C.iloadN at_69 rfl ?_
    refine C.ldcInt (v := (1000000 : Int32)) (B.1 _ (List.mem_of_getElem? (i := 9) rfl)) at_70 ?_
    refine C.callS [.int u, .int (1000000 : Int32)] [.int (5 : Int32), .ref a3] 2 (B.1 _ (List.mem_of_getElem? (i := 3) rfl)) (B.1 _ (List.mem_of_getElem? (i := 4) rfl)) (B.1 _ (List.mem_of_getElem? (i := 5) rfl)) (B.1 _ (List.mem_of_getElem? (i := 6) rfl)) (by decide) pd__28_II_29_C rfl id (c_dig B (u := u) (p := (1000000 : Int32)) hu.1 (by decide)) at_72 rfl rfl rfl (by decide) (by decide) (by decide) (by decide) all0 fun v12 h12 z12 K12 q12 => ?_
    obtain ⟨c5, rfl, g5, D5, rfl⟩ := q12
    show C.W h11 [a3] 1 12 (mkF K.m 75 #[.val (.int p0), .val (.int p1), .val (.int u), .val (.int e), .val (.ref a3), .unset, .unset, .unset] [.int c5, .int (5 : Int32), .ref a3])
    refine C.castore 5 Aw11 (by first | rfl | decide) (Nat.le_of_ble_eq_true rfl) (by omega) (by omega) at_75 (List.mem_of_getElem? (i := 0) rfl) fun h13 z13 K13 Aw13 => ?_
    have Aw13 : Ary Z h13 a3 .char [.int (48 : Int32), .int (48 : Int32), .int c2, .int c3, .int c4, .int c5, .int 0, .int 0, .int 0, .int 0, .int 0, .int 0] := Aw13
    show C.W h13 [a3] 1 12 (mkF K.m 76 #[.val (.int p0), .val (.int p1), .val (.int u), .val (.int e), .val (.ref a3), .unset, .unset, .unset] [])
    refine C.aload at_76 rfl rfl ?_
    refine C.bipush (v := (6 : Int32)) at_78 (by first | rfl | decide) ?_
    refine C.iloadN at_80 rfl ?_
    refine C.ldcInt (v := (100000 : Int32)) (B.1 _ (List.mem_of_getElem? (i := 10) rfl)) at_81 ?_
    refine C.callS [.int u, .int (100000 : Int32)] [.int (6 : Int32), .ref a3] 2 (B.1 _ (List.mem_of_getElem? (i := 3) rfl)) (B.1 _ (List.mem_of_getElem? (i := 4) rfl)) (B.1 _ (List.mem_of_getElem? (i := 5) rfl)) (B.1 _ (List.mem_of_getElem? (i := 6) rfl)) (by decide) pd__28_II_29_C rfl id (c_dig B (u := u) (p := (100000 : Int32)) hu.1 (by decide)) at_83 rfl rfl rfl (by decide) (by decide) (by decide) (by decide) all0 fun v14 h14 z14 K14 q14 => ?_
    obtain ⟨c6, rfl, g6, D6, rfl⟩ := q14
    show C.W h13 [a3] 1 12 (mkF K.m 86 #[.val (.int p0), .val (.int p1), .val (.int u), .val (.int e), .val (.ref a3), .unset, .unset, .unset] [.int c6, .int (6 : Int32), .ref a3])
    refine C.castore 6 Aw13 (by first | rfl | decide) (Nat.le_of_ble_eq_true rfl) (by omega) (by omega) at_86 (List.mem_of_getElem? (i := 0) rfl) fun h15 z15 K15 Aw15 => ?_
    have Aw15 : Ary Z h15 a3 .char [.int (48 : Int32), .int (48 : Int32), .int c2, .int c3, .int c4, .int c5, .int c6, .int 0, .int 0, .int 0, .int 0, .int 0] := Aw15
    show C.W h15 [a3] 1 12 (mkF K.m 87 #[.val (.int p0), .val (.int p1), .val (.int u), .val (.int e), .val (.ref a3), .unset, .unset, .unset] [])
    refine C.aload at_87 rfl rfl ?_
    refine C.bipush (v := (7 : Int32)) at_89 (by first | rfl | decide) ?_
    refine C.iloadN at_91 rfl ?_
    refine C.sipush (v := (10000 : Int32)) at_92 (by first | rfl | decide) ?_
    refine C.callS [.int u, .int (10000 : Int32)] [.int (7 : Int32), .ref a3] 2 (B.1 _ (List.mem_of_getElem? (i := 3) rfl)) (B.1 _ (List.mem_of_getElem? (i := 4) rfl)) (B.1 _ (List.mem_of_getElem? (i := 5) rfl)) (B.1 _ (List.mem_of_getElem? (i := 6) rfl)) (by decide) pd__28_II_29_C rfl id (c_dig B (u := u) (p := (10000 : Int32)) hu.1 (by decide)) at_95 rfl rfl rfl (by decide) (by decide) (by decide) (by decide) all0 fun v16 h16 z16 K16 q16 => ?_
    obtain ⟨c7, rfl, g7, D7, rfl⟩ := q16
    show C.W h15 [a3] 1 12 (mkF K.m 98 #[.val (.int p0), .val (.int p1), .val (.int u), .val (.int e), .val (.ref a3), .unset, .unset, .unset] [.int c7, .int (7 : Int32), .ref a3])
    refine C.castore 7 Aw15 (by first | rfl | decide) (Nat.le_of_ble_eq_true rfl) (by omega) (by omega) at_98 (List.mem_of_getElem? (i := 0) rfl) fun h17 z17 K17 Aw17 => ?_
    have Aw17 : Ary Z h17 a3 .char [.int (48 : Int32), .int (48 : Int32), .int c2, .int c3, .int c4, .int c5, .int c6, .int c7, .int 0, .int 0, .int 0, .int 0] := Aw17
    show C.W h17 [a3] 1 12 (mkF K.m 99 #[.val (.int p0), .val (.int p1), .val (.int u), .val (.int e), .val (.ref a3), .unset, .unset, .unset] [])
    refine C.aload at_99 rfl rfl ?_
    refine C.bipush (v := (8 : Int32)) at_101 (by first | rfl | decide) ?_
    refine C.iloadN at_103 rfl ?_
    refine C.sipush (v := (1000 : Int32)) at_104 (by first | rfl | decide) ?_
    refine C.callS [.int u, .int (1000 : Int32)] [.int (8 : Int32), .ref a3] 2 (B.1 _ (List.mem_of_getElem? (i := 3) rfl)) (B.1 _ (List.mem_of_getElem? (i := 4) rfl)) (B.1 _ (List.mem_of_getElem? (i := 5) rfl)) (B.1 _ (List.mem_of_getElem? (i := 6) rfl)) (by decide) pd__28_II_29_C rfl id (c_dig B (u := u) (p := (1000 : Int32)) hu.1 (by decide)) at_107 rfl rfl rfl (by decide) (by decide) (by decide) (by decide) all0 fun v18 h18 z18 K18 q18 => ?_
    obtain ⟨c8, rfl, g8, D8, rfl⟩ := q18
    show C.W h17 [a3] 1 12 (mkF K.m 110 #[.val (.int p0), .val (.int p1), .val (.int u), .val (.int e), .val (.ref a3), .unset, .unset, .unset] [.int c8, .int (8 : Int32), .ref a3])
    refine C.castore 8 Aw17 (by first | rfl | decide) (Nat.le_of_ble_eq_true rfl) (by omega) (by omega) at_110 (List.mem_of_getElem? (i := 0) rfl) fun h19 z19 K19 Aw19 => ?_
    have Aw19 : Ary Z h19 a3 .char [.int (48 : Int32), .int (48 : Int32), .int c2, .int c3, .int c4, .int c5, .int c6, .int c7, .int c8, .int 0, .int 0, .int 0] := Aw19
    show C.W h19 [a3] 1 12 (mkF K.m 111 #[.val (.int p0), .val (.int p1), .val (.int u), .val (.int e), .val (.ref a3), .unset, .unset, .unset] [])
    refine C.aload at_111 rfl rfl ?_
    refine C.bipush (v := (9 : Int32)) at_113 (by first | rfl | decide) ?_
    refine C.iloadN at_115 rfl ?_
    refine C.bipush (v := (100 : Int32)) at_116 (by first | rfl | decide) ?_
    refine C.callS [.int u, .int (100 : Int32)] [.int (9 : Int32), .ref a3] 2 (B.1 _ (List.mem_of_getElem? (i := 3) rfl)) (B.1 _ (List.mem_of_getElem? (i := 4) rfl)) (B.1 _ (List.mem_of_getElem? (i := 5) rfl)) (B.1 _ (List.mem_of_getElem? (i := 6) rfl)) (by decide) pd__28_II_29_C rfl id (c_dig B (u := u) (p := (100 : Int32)) hu.1 (by decide)) at_118 rfl rfl rfl (by decide) (by decide) (by decide) (by decide) all0 fun v20 h20 z20 K20 q20 => ?_
    obtain ⟨c9, rfl, g9, D9, rfl⟩ := q20
    show C.W h19 [a3] 1 12 (mkF K.m 121 #[.val (.int p0), .val (.int p1), .val (.int u), .val (.int e), .val (.ref a3), .unset, .unset, .unset] [.int c9, .int (9 : Int32), .ref a3])
    refine C.castore 9 Aw19 (by first | rfl | decide) (Nat.le_of_ble_eq_true rfl) (by omega) (by omega) at_121 (List.mem_of_getElem? (i := 0) rfl) fun h21 z21 K21 Aw21 => ?_
    have Aw21 : Ary Z h21 a3 .char [.int (48 : Int32), .int (48 : Int32), .int c2, .int c3, .int c4, .int c5, .int c6, .int c7, .int c8, .int c9, .int 0, .int 0] := Aw21
    show C.W h21 [a3] 1 12 (mkF K.m 122 #[.val (.int p0), .val (.int p1), .val (.int u), .val (.int e), .val (.ref a3), .unset, .unset, .unset] [])
    refine C.aload at_122 rfl rfl ?_
    refine C.bipush (v := (10 : Int32)) at_124 (by first | rfl | decide) ?_
    refine C.iloadN at_126 rfl ?_
    refine C.bipush (v := (10 : Int32)) at_127 (by first | rfl | decide) ?_
    refine C.callS [.int u, .int (10 : Int32)] [.int (10 : Int32), .ref a3] 2 (B.1 _ (List.mem_of_getElem? (i := 3) rfl)) (B.1 _ (List.mem_of_getElem? (i := 4) rfl)) (B.1 _ (List.mem_of_getElem? (i := 5) rfl)) (B.1 _ (List.mem_of_getElem? (i := 6) rfl)) (by decide) pd__28_II_29_C rfl id (c_dig B (u := u) (p := (10 : Int32)) hu.1 (by decide)) at_129 rfl rfl rfl (by decide) (by decide) (by decide) (by decide) all0 fun v22 h22 z22 K22 q22 => ?_
    obtain ⟨c10, rfl, g10, D10, rfl⟩ := q22
    show C.W h21 [a3] 1 12 (mkF K.m 132 #[.val (.int p0), .val (.int p1), .val (.int u), .val (.int e), .val (.ref a3), .unset, .unset, .unset] [.int c10, .int (10 : Int32), .ref a3])
    refine C.castore 10 Aw21 (by first | rfl | decide) (Nat.le_of_ble_eq_true rfl) (by omega) (by omega) at_132 (List.mem_of_getElem? (i := 0) rfl) fun h23 z23 K23 Aw23 => ?_
    have Aw23 : Ary Z h23 a3 .char [.int (48 : Int32), .int (48 : Int32), .int c2, .int c3, .int c4, .int c5, .int c6, .int c7, .int c8, .int c9, .int c10, .int 0] := Aw23
    show C.W h23 [a3] 1 12 (mkF K.m 133 #[.val (.int p0), .val (.int p1), .val (.int u), .val (.int e), .val (.ref a3), .unset, .unset, .unset] [])
    refine C.aload at_133 rfl rfl ?_
    refine C.bipush (v := (11 : Int32)) at_135 (by first | rfl | decide) ?_
    refine C.iloadN at_137 rfl ?_
    refine C.iconst (v := (1 : Int32)) at_138 (by first | rfl | decide) ?_
    refine C.callS [.int u, .int (1 : Int32)] [.int (11 : Int32), .ref a3] 2 (B.1 _ (List.mem_of_getElem? (i := 3) rfl)) (B.1 _ (List.mem_of_getElem? (i := 4) rfl)) (B.1 _ (List.mem_of_getElem? (i := 5) rfl)) (B.1 _ (List.mem_of_getElem? (i := 6) rfl)) (by decide) pd__28_II_29_C rfl id (c_dig B (u := u) (p := (1 : Int32)) hu.1 (by decide)) at_139 rfl rfl rfl (by decide) (by decide) (by decide) (by decide) all0 fun v24 h24 z24 K24 q24 => ?_
    obtain ⟨c11, rfl, g11, D11, rfl⟩ := q24
    show C.W h23 [a3] 1 12 (mkF K.m 142 #[.val (.int p0), .val (.int p1), .val (.int u), .val (.int e), .val (.ref a3), .unset, .unset, .unset] [.int c11, .int (11 : Int32), .ref a3])
    refine C.castore 11 Aw23 (by first | rfl | decide) (Nat.le_of_ble_eq_true rfl) (by omega) (by omega) at_142 (List.mem_of_getElem? (i := 0) rfl) fun h25 z25 K25 Aw25 => ?_
    have Aw25 : Ary Z h25 a3 .char [.int (48 : Int32), .int (48 : Int32), .int c2, .int c3, .int c4, .int c5, .int c6, .int c7, .int c8, .int c9, .int c10, .int c11] := Aw25
    show C.W h25 [a3] 1 12 (mkF K.m 143 #[.val (.int p0), .val (.int p1), .val (.int u), .val (.int e), .val (.ref a3), .unset, .unset, .unset] [])
    refine C.iloadN at_143 rfl ?_
    refine C.callS [.int u] [] 0 (B.1 _ (List.mem_of_getElem? (i := 11) rfl)) (B.1 _ (List.mem_of_getElem? (i := 12) rfl)) (B.1 _ (List.mem_of_getElem? (i := 5) rfl)) (B.1 _ (List.mem_of_getElem? (i := 13) rfl)) (by decide) pd__28_I_29_I rfl id (c_dc B hu.1) at_144 rfl rfl rfl (by decide) (by decide) (by decide) (by decide) all0 fun v26 h26 z26 K26 q26 => ?_
    obtain ⟨m, rfl, hm, hm2, rfl⟩ := q26
    show C.W h25 [a3] 1 12 (mkF K.m 147 #[.val (.int p0), .val (.int p1), .val (.int u), .val (.int e), .val (.ref a3), .unset, .unset, .unset] [.int m])
    refine C.iloadN at_147 rfl ?_
    refine C.iadd at_148 ?_
    obtain ⟨n, e_n⟩ : ∃ z, (m + e) = z := ⟨_, rfl⟩
    refine C.topI e_n ?_
    have en : n.toInt = m.toInt + e.toInt := by rw [← e_n]; exact add_int (by omega) (by omega)
    refine C.istore #[.val (.int p0), .val (.int p1), .val (.int u), .val (.int e), .val (.ref a3), .val (.int n), .unset, .unset] at_149 rfl ?_
    refine C.aload at_151 rfl rfl ?_
    refine C.iload at_153 rfl ?_
    refine C.callS [.ref a3, .int n] [] 0 (B.1 _ (List.mem_of_getElem? (i := 14) rfl)) (B.1 _ (List.mem_of_getElem? (i := 15) rfl)) (B.1 _ (List.mem_of_getElem? (i := 5) rfl)) (B.1 _ (List.mem_of_getElem? (i := 16) rfl)) (by decide) pd__28__5b_CI_29_Ljava_2f_lang_2f_String_3b_ rfl id (c_tail B (V := u.toInt) (c0 := 48) (c1 := 48) Aw25 (by omega) (by decide) (by rw [Int.ediv_eq_zero_of_lt hu.1 (by omega)]; rfl) (by decide) (by rw [Int.ediv_eq_zero_of_lt hu.1 (by omega)]; rfl) g2 (D2.lit (by decide)) g3 (D3.lit (by decide)) g4 (D4.lit (by decide)) g5 (D5.lit (by decide)) g6 (D6.lit (by decide)) g7 (D7.lit (by decide)) g8 (D8.lit (by decide)) g9 (D9.lit (by decide)) g10 (D10.lit (by decide)) g11 (D11.lit (by decide))) at_155 rfl rfl rfl (by decide) (by decide) (by decide) (by decide) all0 fun v27 h27 z27 K27 q27 => ?_
    obtain ⟨x, cs, rfl, S, hl, hd, hv⟩ := q27
    show C.W h27 [a3] 4 39 (mkF K.m 158 #[.val (.int p0), .val (.int p1), .val (.int u), .val (.int e), .val (.ref a3), .val (.int n), .unset, .unset] [.ref x])
    rw [Int.emod_eq_of_lt hu.1 (Int.lt_of_lt_of_le hm2 (pow_le (by omega)))] at hv
    refine C.astore #[.val (.int p0), .val (.int p1), .val (.int u), .val (.int e), .val (.ref a3), .val (.int n), .val (.ref x), .unset] at_158 rfl rfl ?_
    refine C.aload at_160 rfl rfl ?_
    refine C.callS [.ref x] [] 0 (B.1 _ (List.mem_of_getElem? (i := 46) rfl)) (B.1 _ (List.mem_of_getElem? (i := 47) rfl)) (B.1 _ (List.mem_of_getElem? (i := 48) rfl)) (B.1 _ (List.mem_of_getElem? (i := 49) rfl)) (by decide) pd__28_Ljava_2f_lang_2f_String_3b__29_Lcom_2f_example_2f_quire_2f_quire_2f_catalogue_2f_RecordNumber_3b_ rfl id (c_rnparse B trivial S (by omega) hd (by omega) (by omega)) at_162 rfl rfl rfl (by decide) (by decide) (by decide) (by decide) all0 fun v28 h28 z28 K28 q28 => ?_
    obtain ⟨t, r, rfl, hr, Et, G1⟩ := q28
    show C.W h28 [a3] 7 96 (mkF K.m 165 #[.val (.int p0), .val (.int p1), .val (.int u), .val (.int e), .val (.ref a3), .val (.int n), .val (.ref x), .unset] [.ref t])
    refine C.astore #[.val (.int p0), .val (.int p1), .val (.int u), .val (.int e), .val (.ref a3), .val (.int n), .val (.ref x), .val (.ref t)] at_165 rfl rfl ?_
    refine C.aload at_167 rfl rfl ?_
    refine C.callV t [] [] 0 (B.1 _ (List.mem_of_getElem? (i := 112) rfl)) (B.1 _ (List.mem_of_getElem? (i := 113) rfl)) (B.1 _ (List.mem_of_getElem? (i := 115) rfl)) (B.1 _ (List.mem_of_getElem? (i := 114) rfl)) (by decide) rfl Et pd__28__29_I rfl id (c_val B G1) at_169 rfl rfl rfl (by decide) (by decide) (by decide) (by decide) all0 fun v29 h29 z29 K29 q29 => ?_
    obtain ⟨rfl, rfl⟩ := q29
    show C.W h28 [a3] 7 96 (mkF K.m 172 #[.val (.int p0), .val (.int p1), .val (.int u), .val (.int e), .val (.ref a3), .val (.int n), .val (.ref x), .val (.ref t)] [.int r])
    refine C.iloadN at_172 rfl ?_
    refine C.icmp_ne 180 at_173 (by decide) (by decide) (fun q30 => ?_) (fun q30 => ?_)
    · exfalso; omega
    · refine C.iconst (v := (1 : Int32)) at_176 (by first | rfl | decide) ?_
      refine C.goto 181 at_177 (by decide) (by decide) ?_
      exact C.ireturn (t := .boolean) rfl (by simp) rfl at_181 (by decide) (by decide) rfl
  · refine C.iconst (v := (1 : Int32)) at_9 (by first | rfl | decide) ?_
    exact C.ireturn (t := .boolean) rfl (by simp) rfl at_10 (by decide) (by decide) rfl
set_option maxRecDepth 65536 in
set_option maxHeartbeats 40000000 in
theorem comes_1 {Post : Tables → Env → Array Value → State → Outcome → State → Prop} (hpost : ∀ tb e args s v u, (limb_1_1.after args s (.returned v) u = true ∧ limb_1_2.after args s (.returned v) u = true ∧ True) → ReturnedEndW s (.returned v) u (Jvm.fieldLocs frame_1_writes args s ++ Jvm.arrayLocs frame_1_arrays args s ++ Jvm.staticLocs frame_1_statics s) 24 1216 → Post tb e args s (.returned v) u) :
    ArmFor flags0 classFile x code maxLocals ret World_1 tables_1 room_1 Calls_1 rest_1 Pre_1 Post := by
  intro l hfl _ _ p e ha hc hk s m args below hf hA hF happ hP
  obtain ⟨hcalls, hrest, hpre⟩ := hP
  obtain ⟨-, -, -, hnamed, -, -, -, hat⟩ := (Spec.applies_iff hf).mp happ
  obtain ⟨hg, hn⟩ := and_e (Cond.before_iff.mp (show (Jvm.Cond.and given_1 narrow_1).before args s = true from hpre))
  obtain ⟨hct, r0⟩ := and_e hg
  obtain ⟨w0, w1, rfl⟩ : ∃ w0 w1 : Value, args = #[w0, w1] := by
    have hs : args.size = 2 := by simpa [Cond.value, given_1] using hct
    obtain ⟨L⟩ := args
    match L, hs with
    | [w0, w1], _ => exact ⟨w0, w1, rfl⟩
  have hw := fun d (hd : d ∈ tables_1) => atoms_spec (ws := Jvm.Cond.code x code maxLocals ret :: tables_1) hat d (List.mem_cons_of_mem _ hd)
  obtain ⟨hsets, hown0⟩ := atoms_of _ (rest_1_c_eq ▸ (show rest_1_c.before _ s = true from hrest))
  have n3 := not_v (Cond.before_iff.mp (hsets _ (List.mem_of_getElem? (i := 2) rfl)))
  obtain ⟨zc, ezc⟩ := is_v (Cond.before_iff.mp (hsets _ (List.mem_of_getElem? (i := 1) rfl)))
  have Szc : Sta s s.heap "java/lang/String" "COMPACT_STRINGS" "Z" (.int zc) := Sta.start ezc (Or.inl (hsets _ (List.mem_of_getElem? (i := 0) rfl)))
  have czc : ¬ (zc = (0 : Int32)) := gotF (Cond.eq_ints ezc (Term.int_eval (0))) n3
  obtain ⟨fm, efm, rfm⟩ := isR_v (Cond.before_iff.mp (hsets _ (List.mem_of_getElem? (i := 8) rfl)))
  have Sfm : Sta s s.heap "jdk/internal/util/Preconditions" "SIOOBE_FORMATTER" "Ljava/util/function/BiFunction;" fm := Sta.start efm (Or.inl (hsets _ (List.mem_of_getElem? (i := 7) rfl)))
  obtain ⟨g0, r1⟩ := and_e r0
  obtain ⟨i0, e0⟩ := is_v g0
  obtain rfl : w0 = (.int i0) := Option.some.inj e0
  obtain ⟨i1, e1⟩ := is_v r1
  obtain rfl : w1 = (.int i1) := Option.some.inj e1
  have B : Base s _ := ⟨hw, ⟨zc, Szc, czc⟩, ⟨fm, Sfm, rfm⟩⟩
  have hCH : CHv s EL s.vm s.heap := fun p hp => nomatch hp
  obtain ⟨n, o, h1, h2, h3, v, L, rfl, ⟨hq, -, N⟩, -, hR⟩ := m_law (l := l) (n0 := s.heap.size) (h := s.heap) (p0 := i0) (p1 := i1) B p e ha hc hk s m _ below hf ((Spec.applies_iff_loose hf).mp happ).1 ⟨rfl, State.Warmed39.refl s, rfl, hCH, Old.start s, fun _ q => nomatch q⟩ trivial
  obtain rfl := hq
  exact ⟨n, _, h1, h2, h3, hpost _ _ _ _ _ _ ⟨Cond.after_iff.mpr rfl, Cond.after_iff.mpr (eq_i res_at (Term.int_eval (1)) rfl), trivial⟩ ⟨hR.1, hR.2.1, hR.2.2.1, (hR.2.2.2.sift fun y hy => Or.inr (N y hy)).mono (by decide) (by decide)⟩⟩
theorem main_1_1 : Claimed_1_1 := comes_1 fun _ _ _ _ _ _ h hF => ⟨h.1, hF⟩
theorem main_1_2 : Claimed_1_2 := comes_1 fun _ _ _ _ _ _ h hF => ⟨h.2.1, hF⟩
end Jvm.Pilot.@@N@@
namespace Jvm.Pilot.@@N@@
open Jvm Jvm.ClassFile Sem Op Lib Jvm.Free Jvm.Stand Jvm.Pilot.@@N@@.Jvm.D
/-! MADE BY PROGRAM (witnessworld.py) out of the Statement's table words and the real class files: 22 classes; the members and pool entries that the words name. The judged class is class 1, her method 4. -/
namespace start1
open Jvm.ClassFile
def u (s : String) : CpInfo := .utf8 (stringToUtf16 s)
/-- a pool by its gaps: so many unusable entries, then the entry; so many at the end -/
def gap : Nat → List CpInfo → List CpInfo
  | 0, r => r
  | n + 1, r => .unusable :: gap n r
def poolList (es : List (Nat × CpInfo)) (last : Nat) : List CpInfo := es.foldr (fun e r => gap e.1 (e.2 :: r)) (gap last [])
def pool (es : List (Nat × CpInfo)) (last : Nat) : Array CpInfo := ⟨poolList es last⟩
def fileOf (pool : Array CpInfo) (this : Nat) (attrs : Array Attribute := #[]) (ms : Array MethodInfo := #[]) (fl : Nat := 33) (sup : Nat := 0) (ifs : Array Nat := #[]) (fds : Array FieldInfo := #[]) : ClassFile where
  minorVersion := 0
  majorVersion := 65
  constantPool := pool
  accessFlags := fl
  thisClass := this
  superClass := sup
  interfaces := ifs
  fields := fds
  methods := ms
  attributes := attrs
def plain (name : String) (sup : Option ClassId) : Class where
  name := name
  kind := .ordinary
  loader := none
  accessFlags := 33
  super := sup
  interfaces := #[]
  cf := none
  fields := #[]
  methods := #[]
  instanceTypes := #[]
  staticTypes := #[]
  resolved := #[]
  callSites := []
  init := .initialized
  statics := none
  mirror := none

def pool0 : Array CpInfo := pool [(5, u "<init>"), (0, u "()V"), (1, .class_ 10), (1, u "java/lang/Object")] 113

def k0c0 : Code := { maxStack := 0, maxLocals := 1, code := object_method_1_code, exceptionTable := #[], attributes := #[] }
def k0m0 : Method := { name := "<init>", desc := "()V", sig := { parameters := [], returnType := none }, accessFlags := 1, code := some k0c0 }
/-- java/lang/Object -/
def k0 : Class := { plain "java/lang/Object" none with
  accessFlags := 33
  interfaces := #[]
  cf := some (fileOf pool0 8 #[] #[{ accessFlags := 1, nameIndex := 5, descriptorIndex := 6, attributes := #[] }] 33 0 #[] #[])
  fields := #[]
  methods := #[k0m0]
  instanceTypes := #[]
  staticTypes := #[]
  resolved := Array.replicate 124 none
  statics := none }

def pool1 : Array CpInfo := pool [(2, .class_ 4), (1, u "java/lang/Object"), (0, u "<init>"), (0, u "()V"), (0, .integer 1000000000), (0, .integer 100000000), (0, .integer 10000000), (0, .integer 1000000), (0, .integer 100000), (0, .class_ 13), (0, u "java/lang/String"), (0, .methodref 12 15), (0, .nameAndType 5 16), (0, u "([C)V"), (0, .integer 2147483647), (0, .methodref 19 20), (0, .class_ 21), (0, .nameAndType 22 23), (0, u "com/example/quire/quire/catalogue/RecordNumberParsePinLaw"), (0, u "dig"), (0, u "(II)C"), (0, .methodref 19 25), (0, .nameAndType 26 27), (0, u "digitCount"), (0, u "(I)I"), (0, .methodref 19 29), (0, .nameAndType 30 31), (0, u "tail"), (0, u "([CI)Ljava/lang/String;"), (0, .methodref 33 34), (0, .class_ 35), (0, .nameAndType 36 37), (0, u "com/example/quire/quire/catalogue/RecordNumber"), (0, u "parse"), (0, u "(Ljava/lang/String;)Lcom/example/quire/quire/catalogue/RecordNumber;"), (0, .methodref 33 39), (0, .nameAndType 40 41), (0, u "value"), (0, u "()I"), (3, u "law"), (0, u "(II)Z")] 4

def k1m0 : Method := { name := "<init>", desc := "()V", sig := { parameters := [], returnType := none }, accessFlags := 2, code := none }
def k1c1 : Code := { maxStack := 3, maxLocals := 2, code := method_2_code, exceptionTable := #[], attributes := #[] }
def k1m1 : Method := { name := "dig", desc := "(II)C", sig := { parameters := [.int, .int], returnType := some .char }, accessFlags := 10, code := some k1c1 }
def k1c2 : Code := { maxStack := 2, maxLocals := 1, code := method_3_code, exceptionTable := #[], attributes := #[] }
def k1m2 : Method := { name := "digitCount", desc := "(I)I", sig := { parameters := [.int], returnType := some .int }, accessFlags := 10, code := some k1c2 }
def k1c3 : Code := { maxStack := 7, maxLocals := 2, code := method_4_code, exceptionTable := #[], attributes := #[] }
def k1m3 : Method := { name := "tail", desc := "([CI)Ljava/lang/String;", sig := { parameters := [(.array .char), .int], returnType := some (.object "java/lang/String") }, accessFlags := 10, code := some k1c3 }
def k1c4 : Code := { maxStack := 4, maxLocals := 8, code := code, exceptionTable := #[], attributes := #[] }
def k1m4 : Method := { name := "law", desc := "(II)Z", sig := { parameters := [.int, .int], returnType := some .boolean }, accessFlags := 9, code := some k1c4 }
/-- com/example/quire/quire/catalogue/RecordNumberParsePinLaw -/
def k1 : Class := { plain "com/example/quire/quire/catalogue/RecordNumberParsePinLaw" (some 0) with
  accessFlags := 49
  interfaces := #[]
  cf := some (fileOf pool1 19 #[] #[{ accessFlags := 2, nameIndex := 5, descriptorIndex := 6, attributes := #[] }, { accessFlags := 10, nameIndex := 22, descriptorIndex := 23, attributes := #[] }, { accessFlags := 10, nameIndex := 26, descriptorIndex := 27, attributes := #[] }, { accessFlags := 10, nameIndex := 30, descriptorIndex := 31, attributes := #[] }, { accessFlags := 9, nameIndex := 45, descriptorIndex := 46, attributes := #[] }] 49 2 #[] #[])
  fields := #[]
  methods := #[k1m0, k1m1, k1m2, k1m3, k1m4]
  instanceTypes := #[]
  staticTypes := #[]
  resolved := Array.replicate 51 none
  statics := none }

def pool2 : Array CpInfo := pool [(1, .class_ 2), (0, u "java/io/Serializable"), (0, .class_ 4), (0, u "java/lang/Object")] 2

/-- java/io/Serializable -/
def k2 : Class := { plain "java/io/Serializable" (some 0) with
  accessFlags := 1537
  interfaces := #[]
  cf := some (fileOf pool2 1 #[] #[] 1537 3 #[] #[])
  fields := #[]
  methods := #[]
  instanceTypes := #[]
  staticTypes := #[]
  resolved := Array.replicate 7 none
  statics := none }

def pool3 : Array CpInfo := pool [(1, .class_ 2), (0, u "java/lang/Comparable"), (0, .class_ 4), (0, u "java/lang/Object")] 7

/-- java/lang/Comparable -/
def k3 : Class := { plain "java/lang/Comparable" (some 0) with
  accessFlags := 1537
  interfaces := #[]
  cf := some (fileOf pool3 1 #[] #[] 1537 3 #[] #[])
  fields := #[]
  methods := #[]
  instanceTypes := #[]
  staticTypes := #[]
  resolved := Array.replicate 12 none
  statics := none }

def pool4 : Array CpInfo := pool [(2, .class_ 4), (1, u "java/lang/CharSequence"), (42, .class_ 48), (0, u "java/lang/CharSequence$1CodePointIterator"), (10, .class_ 60), (0, u "java/lang/CharSequence$1CharIterator"), (5, .class_ 67), (0, u "java/lang/Object")] 63

/-- java/lang/CharSequence -/
def k4 : Class := { plain "java/lang/CharSequence" (some 0) with
  accessFlags := 1537
  interfaces := #[]
  cf := some (fileOf pool4 2 #[.nestMembers #[47, 59]] #[] 1537 66 #[] #[])
  fields := #[]
  methods := #[]
  instanceTypes := #[]
  staticTypes := #[]
  resolved := Array.replicate 131 none
  statics := none }

def pool5 : Array CpInfo := pool [(1, .class_ 2), (0, u "java/lang/constant/Constable"), (0, .class_ 4), (0, u "java/lang/Object")] 6

/-- java/lang/constant/Constable -/
def k5 : Class := { plain "java/lang/constant/Constable" (some 0) with
  accessFlags := 1537
  interfaces := #[]
  cf := some (fileOf pool5 1 #[] #[] 1537 3 #[] #[])
  fields := #[]
  methods := #[]
  instanceTypes := #[]
  staticTypes := #[]
  resolved := Array.replicate 11 none
  statics := none }

def pool6 : Array CpInfo := pool [(1, .class_ 2), (0, u "java/lang/constant/ConstantDesc"), (0, .class_ 4), (0, u "java/lang/Object")] 32

/-- java/lang/constant/ConstantDesc -/
def k6 : Class := { plain "java/lang/constant/ConstantDesc" (some 0) with
  accessFlags := 1537
  interfaces := #[]
  cf := some (fileOf pool6 1 #[] #[] 1537 3 #[] #[])
  fields := #[]
  methods := #[]
  instanceTypes := #[]
  staticTypes := #[]
  resolved := Array.replicate 37 none
  statics := none }

def pool7 : Array CpInfo := pool [(1, .methodref 2 3), (0, .class_ 4), (0, .nameAndType 5 6), (0, u "java/lang/Object"), (0, u "<init>"), (0, u "()V"), (2, .fieldref 10 11), (0, .class_ 12), (0, .nameAndType 13 14), (0, u "java/lang/String"), (0, u "value"), (0, u "[B"), (0, .fieldref 10 16), (0, .nameAndType 17 18), (0, u "coder"), (0, u "B"), (2, u "hash"), (0, u "I"), (2, u "hashIsZero"), (0, u "Z"), (0, .methodref 10 28), (0, .nameAndType 5 29), (0, u "([CIILjava/lang/Void;)V"), (8, .fieldref 10 39), (0, .nameAndType 40 26), (0, u "COMPACT_STRINGS"), (1, .class_ 44), (1, u "java/lang/StringUTF16"), (0, u "compress"), (1, .methodref 42 48), (0, .nameAndType 49 50), (0, u "coderFromArrayLen"), (0, u "([BI)B"), (56, .class_ 109), (1, u "java/lang/StringLatin1"), (32, u "()Z"), (34, .methodref 42 178), (0, .nameAndType 45 179), (0, u "([CII)[B"), (154, u "()I"), (0, .methodref 10 336), (0, .nameAndType 17 337), (0, u "()B"), (25, u "([BI)C"), (27, u "(II)V"), (35, u "(I)C"), (64, .methodref 10 493), (0, .nameAndType 494 142), (0, u "isLatin1"), (0, .methodref 107 496), (0, .nameAndType 497 363), (0, u "charAt"), (3, u "checkIndex"), (5, u "length"), (67, .class_ 576), (0, u "java/lang/CharSequence"), (22, u "CASE_INSENSITIVE_ORDER"), (0, u "Ljava/util/Comparator;"), (91, u "isEmpty"), (317, u "([C)V"), (42, .fieldref 1054 1055), (0, .class_ 1056), (0, .nameAndType 1057 1058), (0, u "jdk/internal/util/Preconditions"), (0, u "SIOOBE_FORMATTER"), (0, u "Ljava/util/function/BiFunction;"), (0, .methodref 1054 1060), (0, .nameAndType 501 1061), (0, u "(IILjava/util/function/BiFunction;)I"), (39, u "serialPersistentFields"), (0, u "[Ljava/io/ObjectStreamField;"), (0, .class_ 1104), (0, u "java/lang/String$CaseInsensitiveComparator"), (1, .class_ 1107), (0, u "java/io/Serializable"), (0, .class_ 1109), (0, u "java/lang/Comparable"), (0, .class_ 1111), (0, u "java/lang/constant/Constable"), (0, .class_ 1113), (0, u "java/lang/constant/ConstantDesc"), (2, u "serialVersionUID"), (0, u "J"), (3, u "REPL"), (0, u "C"), (2, u "LATIN1"), (1, u "UTF16")] 323

def k7m0 : Method := { name := "<init>", desc := "()V", sig := { parameters := [], returnType := none }, accessFlags := 1, code := none }
def k7c1 : Code := { maxStack := 5, maxLocals := 2, code := jdk_42_method_3_code, exceptionTable := #[], attributes := #[] }
def k7m1 : Method := { name := "<init>", desc := "([C)V", sig := { parameters := [(.array .char)], returnType := none }, accessFlags := 1, code := some k7c1 }
def k7c2 : Code := { maxStack := 2, maxLocals := 1, code := jdk_42_method_54_code, exceptionTable := #[], attributes := #[] }
def k7m2 : Method := { name := "length", desc := "()I", sig := { parameters := [], returnType := some .int }, accessFlags := 1, code := some k7c2 }
def k7c3 : Code := { maxStack := 1, maxLocals := 1, code := jdk_42_method_55_code, exceptionTable := #[], attributes := #[] }
def k7m3 : Method := { name := "isEmpty", desc := "()Z", sig := { parameters := [], returnType := some .boolean }, accessFlags := 1, code := some k7c3 }
def k7c4 : Code := { maxStack := 2, maxLocals := 2, code := jdk_42_method_56_code, exceptionTable := #[], attributes := #[] }
def k7m4 : Method := { name := "charAt", desc := "(I)C", sig := { parameters := [.int], returnType := some .char }, accessFlags := 1, code := some k7c4 }
def k7c5 : Code := { maxStack := 4, maxLocals := 6, code := jdk_42_method_149_code, exceptionTable := #[], attributes := #[] }
def k7m5 : Method := { name := "<init>", desc := "([CIILjava/lang/Void;)V", sig := { parameters := [(.array .char), .int, .int, (.object "java/lang/Void")], returnType := none }, accessFlags := 2, code := some k7c5 }
def k7c6 : Code := { maxStack := 1, maxLocals := 1, code := jdk_42_method_152_code, exceptionTable := #[], attributes := #[] }
def k7m6 : Method := { name := "coder", desc := "()B", sig := { parameters := [], returnType := some .byte }, accessFlags := 0, code := some k7c6 }
def k7c7 : Code := { maxStack := 1, maxLocals := 1, code := jdk_42_method_154_code, exceptionTable := #[], attributes := #[] }
def k7m7 : Method := { name := "isLatin1", desc := "()Z", sig := { parameters := [], returnType := some .boolean }, accessFlags := 0, code := some k7c7 }
def k7c8 : Code := { maxStack := 3, maxLocals := 2, code := jdk_42_method_155_code, exceptionTable := #[], attributes := #[] }
def k7m8 : Method := { name := "checkIndex", desc := "(II)V", sig := { parameters := [.int, .int], returnType := none }, accessFlags := 8, code := some k7c8 }
/-- java/lang/String -/
def k7 : Class := { plain "java/lang/String" (some 0) with
  accessFlags := 49
  interfaces := #[2, 3, 4, 5, 6]
  cf := some (fileOf pool7 10 #[.nestMembers #[1103]] #[{ accessFlags := 1, nameIndex := 5, descriptorIndex := 6, attributes := #[] }, { accessFlags := 1, nameIndex := 5, descriptorIndex := 1010, attributes := #[] }, { accessFlags := 1, nameIndex := 507, descriptorIndex := 334, attributes := #[] }, { accessFlags := 1, nameIndex := 692, descriptorIndex := 142, attributes := #[] }, { accessFlags := 1, nameIndex := 497, descriptorIndex := 427, attributes := #[] }, { accessFlags := 2, nameIndex := 5, descriptorIndex := 29, attributes := #[] }, { accessFlags := 0, nameIndex := 17, descriptorIndex := 337, attributes := #[] }, { accessFlags := 0, nameIndex := 494, descriptorIndex := 142, attributes := #[] }, { accessFlags := 8, nameIndex := 501, descriptorIndex := 391, attributes := #[] }] 49 2 #[1106, 1108, 575, 1110, 1112] #[{ accessFlags := 18, nameIndex := 13, descriptorIndex := 14, attributes := #[] }, { accessFlags := 18, nameIndex := 17, descriptorIndex := 18, attributes := #[] }, { accessFlags := 2, nameIndex := 21, descriptorIndex := 22, attributes := #[] }, { accessFlags := 2, nameIndex := 25, descriptorIndex := 26, attributes := #[] }, { accessFlags := 26, nameIndex := 1116, descriptorIndex := 1117, attributes := #[] }, { accessFlags := 24, nameIndex := 40, descriptorIndex := 26, attributes := #[] }, { accessFlags := 26, nameIndex := 1101, descriptorIndex := 1102, attributes := #[] }, { accessFlags := 26, nameIndex := 1121, descriptorIndex := 1122, attributes := #[] }, { accessFlags := 25, nameIndex := 599, descriptorIndex := 600, attributes := #[] }, { accessFlags := 24, nameIndex := 1125, descriptorIndex := 18, attributes := #[] }, { accessFlags := 24, nameIndex := 1127, descriptorIndex := 18, attributes := #[] }])
  fields := #[{ name := "value", type := (.array .byte), accessFlags := 18, slot := 0, constantValue := 0 }, { name := "coder", type := .byte, accessFlags := 18, slot := 1, constantValue := 0 }, { name := "hash", type := .int, accessFlags := 2, slot := 2, constantValue := 0 }, { name := "hashIsZero", type := .boolean, accessFlags := 2, slot := 3, constantValue := 0 }, { name := "serialVersionUID", type := .long, accessFlags := 26, slot := 0, constantValue := 0 }, { name := "COMPACT_STRINGS", type := .boolean, accessFlags := 24, slot := 1, constantValue := 0 }, { name := "serialPersistentFields", type := (.array (.object "java/io/ObjectStreamField")), accessFlags := 26, slot := 2, constantValue := 0 }, { name := "REPL", type := .char, accessFlags := 26, slot := 3, constantValue := 0 }, { name := "CASE_INSENSITIVE_ORDER", type := (.object "java/util/Comparator"), accessFlags := 25, slot := 4, constantValue := 0 }, { name := "LATIN1", type := .byte, accessFlags := 24, slot := 5, constantValue := 0 }, { name := "UTF16", type := .byte, accessFlags := 24, slot := 6, constantValue := 0 }]
  methods := #[k7m0, k7m1, k7m2, k7m3, k7m4, k7m5, k7m6, k7m7, k7m8]
  instanceTypes := #[(.array .byte), .byte, .int, .boolean]
  staticTypes := #[.long, .boolean, (.array (.object "java/io/ObjectStreamField")), .char, (.object "java/util/Comparator"), .byte, .byte]
  resolved := Array.replicate 1451 none
  statics := some 0 }

def pool8 : Array CpInfo := pool [(6, .class_ 8), (1, u "java/lang/Object"), (0, u "<init>"), (0, u "()V"), (1, .class_ 14), (1, u "java/lang/StringUTF16"), (31, u "$assertionsDisabled"), (0, u "Z"), (13, u "HI_BYTE_SHIFT"), (0, u "I"), (2, u "LO_BYTE_SHIFT"), (49, .methodref 12 116), (0, .nameAndType 117 118), (0, u "compress"), (0, u "([CI[BII)I"), (3, u "([CII)[B"), (138, u "coderFromArrayLen"), (0, u "([BI)B"), (106, .class_ 371), (1, u "java/lang/StringUTF16$LinesSpliterator"), (58, u "MAX_LENGTH"), (196, .class_ 628), (0, u "java/lang/StringUTF16$CodePointsSpliterator"), (0, .class_ 630), (0, u "java/lang/StringUTF16$CharsSpliterator")] 4

def k8m0 : Method := { name := "<init>", desc := "()V", sig := { parameters := [], returnType := none }, accessFlags := 0, code := none }
def k8c1 : Code := { maxStack := 2, maxLocals := 2, code := jdk_52_method_15_code, exceptionTable := #[], attributes := #[] }
def k8m1 : Method := { name := "coderFromArrayLen", desc := "([BI)B", sig := { parameters := [(.array .byte), .int], returnType := some .byte }, accessFlags := 8, code := some k8c1 }
def k8c2 : Code := { maxStack := 5, maxLocals := 6, code := jdk_52_method_16_code, exceptionTable := #[], attributes := #[] }
def k8m2 : Method := { name := "compress", desc := "([CII)[B", sig := { parameters := [(.array .char), .int, .int], returnType := some (.array .byte) }, accessFlags := 9, code := some k8c2 }
def k8c3 : Code := { maxStack := 3, maxLocals := 7, code := jdk_52_method_21_code, exceptionTable := #[], attributes := #[] }
def k8m3 : Method := { name := "compress", desc := "([CI[BII)I", sig := { parameters := [(.array .char), .int, (.array .byte), .int, .int], returnType := some .int }, accessFlags := 9, code := some k8c3 }
/-- java/lang/StringUTF16 -/
def k8 : Class := { plain "java/lang/StringUTF16" (some 0) with
  accessFlags := 48
  interfaces := #[]
  cf := some (fileOf pool8 12 #[.nestMembers #[627, 629, 369]] #[{ accessFlags := 0, nameIndex := 9, descriptorIndex := 10, attributes := #[] }, { accessFlags := 8, nameIndex := 261, descriptorIndex := 262, attributes := #[] }, { accessFlags := 9, nameIndex := 117, descriptorIndex := 122, attributes := #[] }, { accessFlags := 9, nameIndex := 117, descriptorIndex := 118, attributes := #[] }] 48 6 #[] #[{ accessFlags := 26, nameIndex := 61, descriptorIndex := 62, attributes := #[] }, { accessFlags := 26, nameIndex := 65, descriptorIndex := 62, attributes := #[] }, { accessFlags := 24, nameIndex := 430, descriptorIndex := 62, attributes := #[] }, { accessFlags := 4120, nameIndex := 46, descriptorIndex := 47, attributes := #[] }])
  fields := #[{ name := "HI_BYTE_SHIFT", type := .int, accessFlags := 26, slot := 0, constantValue := 0 }, { name := "LO_BYTE_SHIFT", type := .int, accessFlags := 26, slot := 1, constantValue := 0 }, { name := "MAX_LENGTH", type := .int, accessFlags := 24, slot := 2, constantValue := 0 }, { name := "$assertionsDisabled", type := .boolean, accessFlags := 4120, slot := 3, constantValue := 0 }]
  methods := #[k8m0, k8m1, k8m2, k8m3]
  instanceTypes := #[]
  staticTypes := #[.int, .int, .int, .boolean]
  resolved := Array.replicate 635 none
  statics := none }

def pool9 : Array CpInfo := pool [(1, .methodref 2 3), (0, .class_ 4), (0, .nameAndType 5 6), (0, u "java/lang/Object"), (0, u "<init>"), (0, u "()V"), (0, .class_ 8), (0, u "java/lang/Record")] 13

def k9c0 : Code := { maxStack := 1, maxLocals := 1, code := jdk_30_method_1_code, exceptionTable := #[], attributes := #[] }
def k9m0 : Method := { name := "<init>", desc := "()V", sig := { parameters := [], returnType := none }, accessFlags := 4, code := some k9c0 }
/-- java/lang/Record -/
def k9 : Class := { plain "java/lang/Record" (some 0) with
  accessFlags := 1057
  interfaces := #[]
  cf := some (fileOf pool9 7 #[] #[{ accessFlags := 4, nameIndex := 5, descriptorIndex := 6, attributes := #[] }] 1057 2 #[] #[])
  fields := #[]
  methods := #[k9m0]
  instanceTypes := #[]
  staticTypes := #[]
  resolved := Array.replicate 22 none
  statics := none }

def pool10 : Array CpInfo := pool [(1, .class_ 2), (0, u "com/example/quire/quire/catalogue/WholeNumber"), (0, .methodref 4 5), (0, .class_ 6), (0, .nameAndType 7 8), (0, u "java/lang/Record"), (0, u "<init>"), (0, u "()V"), (9, .fieldref 19 20), (0, .class_ 21), (0, .nameAndType 22 23), (0, u "com/example/quire/quire/catalogue/RecordNumber"), (0, u "value"), (0, u "I"), (0, .string 25), (0, u "record number"), (0, .methodref 1 27), (0, .nameAndType 28 29), (0, u "parse"), (0, u "(Ljava/lang/String;Ljava/lang/String;)I"), (0, .methodref 19 31), (0, .nameAndType 7 32), (0, u "(I)V"), (13, u "MAX"), (6, u "(Ljava/lang/String;)Lcom/example/quire/quire/catalogue/RecordNumber;"), (1, u "()I")] 28

def k10c0 : Code := { maxStack := 3, maxLocals := 2, code := prog_12_method_1_code, exceptionTable := #[], attributes := #[] }
def k10m0 : Method := { name := "<init>", desc := "(I)V", sig := { parameters := [.int], returnType := none }, accessFlags := 1, code := some k10c0 }
def k10c1 : Code := { maxStack := 4, maxLocals := 1, code := prog_12_method_2_code, exceptionTable := #[], attributes := #[] }
def k10m1 : Method := { name := "parse", desc := "(Ljava/lang/String;)Lcom/example/quire/quire/catalogue/RecordNumber;", sig := { parameters := [(.object "java/lang/String")], returnType := some (.object "com/example/quire/quire/catalogue/RecordNumber") }, accessFlags := 9, code := some k10c1 }
def k10c2 : Code := { maxStack := 1, maxLocals := 1, code := prog_12_method_6_code, exceptionTable := #[], attributes := #[] }
def k10m2 : Method := { name := "value", desc := "()I", sig := { parameters := [], returnType := some .int }, accessFlags := 1, code := some k10c2 }
/-- com/example/quire/quire/catalogue/RecordNumber -/
def k10 : Class := { plain "com/example/quire/quire/catalogue/RecordNumber" (some 9) with
  accessFlags := 49
  interfaces := #[]
  cf := some (fileOf pool10 19 #[] #[{ accessFlags := 1, nameIndex := 7, descriptorIndex := 32, attributes := #[] }, { accessFlags := 9, nameIndex := 28, descriptorIndex := 53, attributes := #[] }, { accessFlags := 1, nameIndex := 22, descriptorIndex := 55, attributes := #[] }] 49 4 #[] #[{ accessFlags := 18, nameIndex := 22, descriptorIndex := 23, attributes := #[] }, { accessFlags := 25, nameIndex := 46, descriptorIndex := 23, attributes := #[] }])
  fields := #[{ name := "value", type := .int, accessFlags := 18, slot := 0, constantValue := 0 }, { name := "MAX", type := .int, accessFlags := 25, slot := 0, constantValue := 0 }]
  methods := #[k10m0, k10m1, k10m2]
  instanceTypes := #[.int]
  staticTypes := #[.int]
  resolved := Array.replicate 84 none
  statics := none }

def pool11 : Array CpInfo := pool [(4, .class_ 6), (1, u "java/lang/Object"), (0, u "<init>"), (0, u "()V"), (0, .class_ 10), (0, u "com/example/quire/quire/catalogue/WholeNumber"), (0, .integer 2147483647), (0, .methodref 9 13), (0, .nameAndType 14 15), (0, u "parse"), (0, u "(Ljava/lang/String;Ljava/lang/String;II)I"), (0, .methodref 17 18), (0, .class_ 19), (0, .nameAndType 20 21), (0, u "java/lang/String"), (0, u "isEmpty"), (0, u "()Z"), (4, .methodref 17 27), (0, .nameAndType 28 29), (0, u "length"), (0, u "()I"), (0, .methodref 17 31), (0, .nameAndType 32 33), (0, u "charAt"), (0, u "(I)C"), (0, .long 10), (10, u "MAX"), (0, u "I"), (3, u "(Ljava/lang/String;Ljava/lang/String;)I")] 18

def k11m0 : Method := { name := "<init>", desc := "()V", sig := { parameters := [], returnType := none }, accessFlags := 2, code := none }
def k11c1 : Code := { maxStack := 4, maxLocals := 2, code := prog_19_method_2_code, exceptionTable := #[], attributes := #[] }
def k11m1 : Method := { name := "parse", desc := "(Ljava/lang/String;Ljava/lang/String;)I", sig := { parameters := [(.object "java/lang/String"), (.object "java/lang/String")], returnType := some .int }, accessFlags := 9, code := some k11c1 }
def k11c2 : Code := { maxStack := 4, maxLocals := 8, code := prog_19_method_3_code, exceptionTable := #[], attributes := #[] }
def k11m2 : Method := { name := "parse", desc := "(Ljava/lang/String;Ljava/lang/String;II)I", sig := { parameters := [(.object "java/lang/String"), (.object "java/lang/String"), .int, .int], returnType := some .int }, accessFlags := 9, code := some k11c2 }
/-- com/example/quire/quire/catalogue/WholeNumber -/
def k11 : Class := { plain "com/example/quire/quire/catalogue/WholeNumber" (some 0) with
  accessFlags := 49
  interfaces := #[]
  cf := some (fileOf pool11 9 #[] #[{ accessFlags := 2, nameIndex := 7, descriptorIndex := 8, attributes := #[] }, { accessFlags := 9, nameIndex := 14, descriptorIndex := 50, attributes := #[] }, { accessFlags := 9, nameIndex := 14, descriptorIndex := 15, attributes := #[] }] 49 4 #[] #[{ accessFlags := 25, nameIndex := 45, descriptorIndex := 46, attributes := #[] }])
  fields := #[{ name := "MAX", type := .int, accessFlags := 25, slot := 0, constantValue := 0 }]
  methods := #[k11m0, k11m1, k11m2]
  instanceTypes := #[]
  staticTypes := #[.int]
  resolved := Array.replicate 69 none
  statics := none }

def pool12 : Array CpInfo := pool [(1, .class_ 2), (0, u "java/lang/String"), (1, .class_ 6), (1, u "java/lang/Object"), (0, u "<init>"), (0, u "()V"), (0, .methodref 1 10), (0, .nameAndType 11 12), (0, u "checkIndex"), (0, u "(II)V"), (1, .class_ 16), (1, u "java/lang/StringLatin1"), (36, u "([BI)C"), (67, u "$assertionsDisabled"), (0, u "Z"), (98, .class_ 223), (1, u "java/lang/StringLatin1$LinesSpliterator"), (28, u "charAt"), (137, .class_ 391), (0, u "java/lang/StringLatin1$CharsSpliterator")] 3

def k12m0 : Method := { name := "<init>", desc := "()V", sig := { parameters := [], returnType := none }, accessFlags := 0, code := none }
def k12c1 : Code := { maxStack := 2, maxLocals := 2, code := jdk_43_method_2_code, exceptionTable := #[], attributes := #[] }
def k12m1 : Method := { name := "charAt", desc := "([BI)C", sig := { parameters := [(.array .byte), .int], returnType := some .char }, accessFlags := 9, code := some k12c1 }
/-- java/lang/StringLatin1 -/
def k12 : Class := { plain "java/lang/StringLatin1" (some 0) with
  accessFlags := 48
  interfaces := #[]
  cf := some (fileOf pool12 14 #[.nestMembers #[390, 221]] #[{ accessFlags := 0, nameIndex := 7, descriptorIndex := 8, attributes := #[] }, { accessFlags := 9, nameIndex := 252, descriptorIndex := 53, attributes := #[] }] 48 4 #[] #[{ accessFlags := 4120, nameIndex := 121, descriptorIndex := 122, attributes := #[] }])
  fields := #[{ name := "$assertionsDisabled", type := .boolean, accessFlags := 4120, slot := 0, constantValue := 0 }]
  methods := #[k12m0, k12m1]
  instanceTypes := #[]
  staticTypes := #[.boolean]
  resolved := Array.replicate 395 none
  statics := none }

def pool13 : Array CpInfo := pool [(2, .class_ 4), (1, u "java/lang/Object"), (0, u "<init>"), (0, u "()V"), (17, .class_ 26), (1, u "jdk/internal/util/Preconditions"), (6, u "checkIndex"), (21, .class_ 56), (0, u "jdk/internal/util/Preconditions$4"), (57, .class_ 115), (0, u "jdk/internal/util/Preconditions$1"), (7, u "SIOOBE_FORMATTER"), (0, u "Ljava/util/function/BiFunction;"), (0, .class_ 126), (0, u "jdk/internal/util/Preconditions$2"), (3, u "AIOOBE_FORMATTER"), (0, .class_ 132), (0, u "jdk/internal/util/Preconditions$3"), (3, u "IOOBE_FORMATTER"), (41, u "(IILjava/util/function/BiFunction;)I")] 15

def k13m0 : Method := { name := "<init>", desc := "()V", sig := { parameters := [], returnType := none }, accessFlags := 1, code := none }
def k13c1 : Code := { maxStack := 3, maxLocals := 3, code := jdk_41_method_11_code, exceptionTable := #[], attributes := #[] }
def k13m1 : Method := { name := "checkIndex", desc := "(IILjava/util/function/BiFunction;)I", sig := { parameters := [.int, .int, (.object "java/util/function/BiFunction")], returnType := some .int }, accessFlags := 9, code := some k13c1 }
/-- jdk/internal/util/Preconditions -/
def k13 : Class := { plain "jdk/internal/util/Preconditions" (some 0) with
  accessFlags := 33
  interfaces := #[]
  cf := some (fileOf pool13 24 #[.nestMembers #[55, 131, 125, 114]] #[{ accessFlags := 1, nameIndex := 5, descriptorIndex := 6, attributes := #[] }, { accessFlags := 9, nameIndex := 33, descriptorIndex := 178, attributes := #[] }] 33 2 #[] #[{ accessFlags := 25, nameIndex := 123, descriptorIndex := 124, attributes := #[] }, { accessFlags := 25, nameIndex := 130, descriptorIndex := 124, attributes := #[] }, { accessFlags := 25, nameIndex := 136, descriptorIndex := 124, attributes := #[] }])
  fields := #[{ name := "SIOOBE_FORMATTER", type := (.object "java/util/function/BiFunction"), accessFlags := 25, slot := 0, constantValue := 0 }, { name := "AIOOBE_FORMATTER", type := (.object "java/util/function/BiFunction"), accessFlags := 25, slot := 1, constantValue := 0 }, { name := "IOOBE_FORMATTER", type := (.object "java/util/function/BiFunction"), accessFlags := 25, slot := 2, constantValue := 0 }]
  methods := #[k13m0, k13m1]
  instanceTypes := #[]
  staticTypes := #[(.object "java/util/function/BiFunction"), (.object "java/util/function/BiFunction"), (.object "java/util/function/BiFunction")]
  resolved := Array.replicate 194 none
  statics := some 1 }

def pool14 : Array CpInfo := pool [(9, u "<init>"), (6, .class_ 18), (1, u "java/lang/Object"), (0, u "()V"), (1, .class_ 23), (1, u "jdk/internal/util/ArraysSupport"), (0, u "LOG2_ARRAY_LONG_INDEX_SCALE"), (0, u "I"), (2, u "U"), (0, u "Ljdk/internal/misc/Unsafe;"), (8, u "BIG_ENDIAN"), (0, u "Z"), (8, u "LOG2_BYTE_BIT_SIZE"), (4, u "LOG2_ARRAY_INT_INDEX_SCALE"), (54, u "JLA"), (0, u "Ljdk/internal/access/JavaLangAccess;"), (11, u "LOG2_ARRAY_BOOLEAN_INDEX_SCALE"), (9, u "LOG2_ARRAY_BYTE_INDEX_SCALE"), (5, u "LOG2_ARRAY_CHAR_INDEX_SCALE"), (5, u "LOG2_ARRAY_SHORT_INDEX_SCALE"), (18, u "LOG2_ARRAY_FLOAT_INDEX_SCALE"), (24, u "LOG2_ARRAY_DOUBLE_INDEX_SCALE"), (89, u "T_BOOLEAN"), (2, u "T_CHAR"), (1, u "T_FLOAT"), (1, u "T_DOUBLE"), (1, u "T_BYTE"), (1, u "T_SHORT"), (1, u "T_INT"), (1, u "T_LONG"), (1, u "SOFT_MAX_ARRAY_LENGTH")] 83

def k14m0 : Method := { name := "<init>", desc := "()V", sig := { parameters := [], returnType := none }, accessFlags := 2, code := none }
/-- jdk/internal/util/ArraysSupport -/
def k14 : Class := { plain "jdk/internal/util/ArraysSupport" (some 0) with
  accessFlags := 33
  interfaces := #[]
  cf := some (fileOf pool14 21 #[] #[{ accessFlags := 2, nameIndex := 9, descriptorIndex := 19, attributes := #[] }] 33 16 #[] #[{ accessFlags := 24, nameIndex := 28, descriptorIndex := 29, attributes := #[] }, { accessFlags := 26, nameIndex := 38, descriptorIndex := 39, attributes := #[] }, { accessFlags := 25, nameIndex := 121, descriptorIndex := 25, attributes := #[] }, { accessFlags := 25, nameIndex := 131, descriptorIndex := 25, attributes := #[] }, { accessFlags := 25, nameIndex := 137, descriptorIndex := 25, attributes := #[] }, { accessFlags := 25, nameIndex := 143, descriptorIndex := 25, attributes := #[] }, { accessFlags := 25, nameIndex := 53, descriptorIndex := 25, attributes := #[] }, { accessFlags := 25, nameIndex := 24, descriptorIndex := 25, attributes := #[] }, { accessFlags := 25, nameIndex := 162, descriptorIndex := 25, attributes := #[] }, { accessFlags := 25, nameIndex := 187, descriptorIndex := 25, attributes := #[] }, { accessFlags := 26, nameIndex := 48, descriptorIndex := 25, attributes := #[] }, { accessFlags := 25, nameIndex := 277, descriptorIndex := 25, attributes := #[] }, { accessFlags := 25, nameIndex := 280, descriptorIndex := 25, attributes := #[] }, { accessFlags := 25, nameIndex := 282, descriptorIndex := 25, attributes := #[] }, { accessFlags := 25, nameIndex := 284, descriptorIndex := 25, attributes := #[] }, { accessFlags := 25, nameIndex := 286, descriptorIndex := 25, attributes := #[] }, { accessFlags := 25, nameIndex := 288, descriptorIndex := 25, attributes := #[] }, { accessFlags := 25, nameIndex := 290, descriptorIndex := 25, attributes := #[] }, { accessFlags := 25, nameIndex := 292, descriptorIndex := 25, attributes := #[] }, { accessFlags := 26, nameIndex := 108, descriptorIndex := 109, attributes := #[] }, { accessFlags := 25, nameIndex := 294, descriptorIndex := 25, attributes := #[] }])
  fields := #[{ name := "U", type := (.object "jdk/internal/misc/Unsafe"), accessFlags := 24, slot := 0, constantValue := 0 }, { name := "BIG_ENDIAN", type := .boolean, accessFlags := 26, slot := 1, constantValue := 0 }, { name := "LOG2_ARRAY_BOOLEAN_INDEX_SCALE", type := .int, accessFlags := 25, slot := 2, constantValue := 0 }, { name := "LOG2_ARRAY_BYTE_INDEX_SCALE", type := .int, accessFlags := 25, slot := 3, constantValue := 0 }, { name := "LOG2_ARRAY_CHAR_INDEX_SCALE", type := .int, accessFlags := 25, slot := 4, constantValue := 0 }, { name := "LOG2_ARRAY_SHORT_INDEX_SCALE", type := .int, accessFlags := 25, slot := 5, constantValue := 0 }, { name := "LOG2_ARRAY_INT_INDEX_SCALE", type := .int, accessFlags := 25, slot := 6, constantValue := 0 }, { name := "LOG2_ARRAY_LONG_INDEX_SCALE", type := .int, accessFlags := 25, slot := 7, constantValue := 0 }, { name := "LOG2_ARRAY_FLOAT_INDEX_SCALE", type := .int, accessFlags := 25, slot := 8, constantValue := 0 }, { name := "LOG2_ARRAY_DOUBLE_INDEX_SCALE", type := .int, accessFlags := 25, slot := 9, constantValue := 0 }, { name := "LOG2_BYTE_BIT_SIZE", type := .int, accessFlags := 26, slot := 10, constantValue := 0 }, { name := "T_BOOLEAN", type := .int, accessFlags := 25, slot := 11, constantValue := 0 }, { name := "T_CHAR", type := .int, accessFlags := 25, slot := 12, constantValue := 0 }, { name := "T_FLOAT", type := .int, accessFlags := 25, slot := 13, constantValue := 0 }, { name := "T_DOUBLE", type := .int, accessFlags := 25, slot := 14, constantValue := 0 }, { name := "T_BYTE", type := .int, accessFlags := 25, slot := 15, constantValue := 0 }, { name := "T_SHORT", type := .int, accessFlags := 25, slot := 16, constantValue := 0 }, { name := "T_INT", type := .int, accessFlags := 25, slot := 17, constantValue := 0 }, { name := "T_LONG", type := .int, accessFlags := 25, slot := 18, constantValue := 0 }, { name := "JLA", type := (.object "jdk/internal/access/JavaLangAccess"), accessFlags := 26, slot := 19, constantValue := 0 }, { name := "SOFT_MAX_ARRAY_LENGTH", type := .int, accessFlags := 25, slot := 20, constantValue := 0 }]
  methods := #[k14m0]
  instanceTypes := #[]
  staticTypes := #[(.object "jdk/internal/misc/Unsafe"), .boolean, .int, .int, .int, .int, .int, .int, .int, .int, .int, .int, .int, .int, .int, .int, .int, .int, .int, (.object "jdk/internal/access/JavaLangAccess"), .int]
  resolved := Array.replicate 378 none
  statics := none }

def pool15 : Array CpInfo := pool [(1, u "java/lang/Cloneable"), (0, .class_ 1), (0, u "java/lang/Object"), (0, .class_ 3)] 3

/-- java/lang/Cloneable -/
def k15 : Class := { plain "java/lang/Cloneable" (some 0) with
  accessFlags := 1537
  interfaces := #[]
  cf := some (fileOf pool15 2 #[] #[] 1537 4 #[] #[])
  fields := #[]
  methods := #[]
  instanceTypes := #[]
  staticTypes := #[]
  resolved := Array.replicate 8 none
  statics := none }

/-- the primitive byte -/
def k16 : Class := { plain "byte" none with kind := .primitive 'B', accessFlags := 0x411 }
/-- [B -/
def k17 : Class := { plain "[B" (some 0) with kind := .array 16 .byte, interfaces := #[15, 2], accessFlags := 1041 }

/-- the primitive char -/
def k18 : Class := { plain "char" none with kind := .primitive 'C', accessFlags := 0x411 }
/-- [C -/
def k19 : Class := { plain "[C" (some 0) with kind := .array 18 .char, interfaces := #[15, 2], accessFlags := 1041 }

/-- the primitive int -/
def k20 : Class := { plain "int" none with kind := .primitive 'I', accessFlags := 0x411 }
/-- [I -/
def k21 : Class := { plain "[I" (some 0) with kind := .array 20 .int, interfaces := #[15, 2], accessFlags := 1041 }

def heap : Heap := #[{ cls := 7, slots := #[.long 0, .int 1, .null, .int 0, .null, .int 0, .int 0], vm := .statics 7 },
  { cls := 13, slots := #[.null, .null, .null], vm := .statics 13 }]
def classes : Array Class := #[k0, k1, k2, k3, k4, k5, k6, k7, k8, k9, k10, k11, k12, k13, k14, k15, k16, k17, k18, k19, k20, k21]
def interned : List (Array UInt16 × Addr) := []
def slotsUsed : Nat := 10
def theMethod : MethodId := ⟨1, 4⟩
def args0 : Array Value := #[.int 7, .int 5]
def aboutOver (below : List Frame) : State where
  vm := { classes := classes, interned := interned.toArray }
  heap := heap
  slotsUsed := slotsUsed
  threads := #[{ frames := .invoking theMethod args0 :: below }]
def below0 : List Frame := [.native { method := ⟨0, 0⟩, args := #[] }]
def about1 : State := aboutOver below0
def p0 : Program := .bare "" "" ""
def e0 : Env := launch0.env 0 0 0
theorem w_frames : about1.frames = Frame.invoking theMethod args0 :: below0 := rfl
set_option maxRecDepth 65536 in
theorem w_args : argsFit about1.vm theMethod args0 = true := by decide +kernel
set_option maxRecDepth 65536 in
theorem w_heap : heapFits about1 = true := by decide +kernel
set_option maxRecDepth 65536 in
theorem w_runnable : about1.curStatus? = some .runnable := by decide +kernel
set_option maxRecDepth 65536 in
theorem w_alone : about1.alone = true := by decide +kernel
set_option maxRecDepth 65536 in
theorem w_named : about1.methodNamed? x = some theMethod := by decide +kernel
set_option maxRecDepth 65536 in
theorem w_hears : about1.hears theMethod below0 = true := by decide +kernel
set_option maxRecDepth 65536 in
theorem w_ripe : about1.ripe theMethod args0 below0 = true := by decide +kernel
theorem w_running : about1.status = .running := rfl
set_option maxRecDepth 65536 in
theorem w_room : about1.hasRoom e0.platform room_1 = true :=
  launch0.hasRoom_least _ room_1 (by decide +kernel) (by decide +kernel) (by decide +kernel) (by decide +kernel) (by decide +kernel) (by decide +kernel)
theorem allAtoms_all (ts : List Jvm.Cond) (a : Array Jvm.Value) (st : Jvm.State) : (allAtoms ts).before a st = ts.all (fun c => c.before a st) := by
  induction ts with
  | nil => rfl
  | cons c t ih =>
    show (Jvm.Cond.and c (allAtoms t)).before a st = _
    rw [Jvm.Cond.before_and, ih, List.all_cons]
def words1 : List Jvm.Cond := Jvm.Cond.code x code maxLocals ret :: tables_1
/-- a 'code' word, met by the world's own term for the bytes: nothing is compared byte by byte -/
theorem code_word {y : MethodName} {bytes : ByteArray} {mx : Nat} {rt : Option FieldType} {a : Array Value} {s : State} {m : MethodId} {meth : Method} {c : Code} (h1 : s.methodNamed? y = some m) (h2 : s.vm.method? m = some meth) (h3 : meth.code = some c) (h4 : c.code = bytes)
    (h5 : (c.maxLocals == mx && c.exceptionTable.isEmpty && decide (c.maxStack ≤ mostOperands) && decide (meth.sig.returnType = rt) && !meth.locks && decide (parseMethodDescriptor y.desc = some meth.sig)) = true) : (Jvm.Cond.code y bytes mx rt).before a s = true := by
  simp only [Bool.and_eq_true, beq_iff_eq, Bool.not_eq_true', decide_eq_true_eq] at h5
  obtain ⟨⟨⟨⟨⟨g1, g2⟩, g3⟩, g4⟩, g5⟩, g6⟩ := h5
  simp [Cond.before, Cond.holds, Cond.value, h1, h2, h3, h4, g1, g2, g3, g4, g5, g6]
def isCode : Jvm.Cond → Bool
  | .code _ _ _ _ => true
  | _ => false
theorem all_split {L : List Jvm.Cond} {P : Jvm.Cond → Bool} (h1 : L.all (fun c => isCode c || P c) = true) (h2 : ∀ c ∈ L.filter isCode, P c = true) : L.all P = true := by
  refine List.all_eq_true.mpr fun c hc => ?_
  have h := List.all_eq_true.mp h1 c hc
  rcases Bool.eq_false_or_eq_true (isCode c) with hi | hi
  · exact h2 c (List.mem_filter.mpr ⟨hc, hi⟩)
  · simpa [hi] using h
set_option maxRecDepth 65536 in
theorem w_c0 : (Jvm.Cond.code x code maxLocals ret).before args0 about1 = true := code_word (m := ⟨1, 4⟩) (meth := k1m4) (c := k1c4) (by decide +kernel) rfl rfl rfl (by decide +kernel)
set_option maxRecDepth 65536 in
theorem w_c1 : (Jvm.Cond.code ({ cls := "com/example/quire/quire/catalogue/RecordNumberParsePinLaw", name := "dig", desc := "(II)C" } : Jvm.MethodName) method_2_code (2 : Nat) (Option.some Jvm.ClassFile.FieldType.char)).before args0 about1 = true := code_word (m := ⟨1, 1⟩) (meth := k1m1) (c := k1c1) (by decide +kernel) rfl rfl rfl (by decide +kernel)
set_option maxRecDepth 65536 in
theorem w_c2 : (Jvm.Cond.code ({ cls := "com/example/quire/quire/catalogue/RecordNumberParsePinLaw", name := "digitCount", desc := "(I)I" } : Jvm.MethodName) method_3_code (1 : Nat) (Option.some Jvm.ClassFile.FieldType.int)).before args0 about1 = true := code_word (m := ⟨1, 2⟩) (meth := k1m2) (c := k1c2) (by decide +kernel) rfl rfl rfl (by decide +kernel)
set_option maxRecDepth 65536 in
theorem w_c3 : (Jvm.Cond.code ({ cls := "com/example/quire/quire/catalogue/RecordNumberParsePinLaw", name := "tail", desc := "([CI)Ljava/lang/String;" } : Jvm.MethodName) method_4_code (2 : Nat) (Option.some (Jvm.ClassFile.FieldType.object "java/lang/String"))).before args0 about1 = true := code_word (m := ⟨1, 3⟩) (meth := k1m3) (c := k1c3) (by decide +kernel) rfl rfl rfl (by decide +kernel)
set_option maxRecDepth 65536 in
theorem w_c4 : (Jvm.Cond.code ({ cls := "java/lang/String", name := "<init>", desc := "([C)V" } : Jvm.MethodName) jdk_42_method_3_code (2 : Nat) (Option.none : Option Jvm.ClassFile.FieldType)).before args0 about1 = true := code_word (m := ⟨7, 1⟩) (meth := k7m1) (c := k7c1) (by decide +kernel) rfl rfl rfl (by decide +kernel)
set_option maxRecDepth 65536 in
theorem w_c5 : (Jvm.Cond.code ({ cls := "java/lang/String", name := "<init>", desc := "([CIILjava/lang/Void;)V" } : Jvm.MethodName) jdk_42_method_149_code (6 : Nat) (Option.none : Option Jvm.ClassFile.FieldType)).before args0 about1 = true := code_word (m := ⟨7, 5⟩) (meth := k7m5) (c := k7c5) (by decide +kernel) rfl rfl rfl (by decide +kernel)
set_option maxRecDepth 65536 in
theorem w_c6 : (Jvm.Cond.code ({ cls := "java/lang/Object", name := "<init>", desc := "()V" } : Jvm.MethodName) object_method_1_code (1 : Nat) (Option.none : Option Jvm.ClassFile.FieldType)).before args0 about1 = true := code_word (m := ⟨0, 0⟩) (meth := k0m0) (c := k0c0) (by decide +kernel) rfl rfl rfl (by decide +kernel)
set_option maxRecDepth 65536 in
theorem w_c7 : (Jvm.Cond.code ({ cls := "java/lang/StringUTF16", name := "compress", desc := "([CII)[B" } : Jvm.MethodName) jdk_52_method_16_code (6 : Nat) (Option.some (Jvm.ClassFile.FieldType.array Jvm.ClassFile.FieldType.byte))).before args0 about1 = true := code_word (m := ⟨8, 2⟩) (meth := k8m2) (c := k8c2) (by decide +kernel) rfl rfl rfl (by decide +kernel)
set_option maxRecDepth 65536 in
theorem w_c8 : (Jvm.Cond.code ({ cls := "java/lang/StringUTF16", name := "compress", desc := "([CI[BII)I" } : Jvm.MethodName) jdk_52_method_21_code (7 : Nat) (Option.some Jvm.ClassFile.FieldType.int)).before args0 about1 = true := code_word (m := ⟨8, 3⟩) (meth := k8m3) (c := k8c3) (by decide +kernel) rfl rfl rfl (by decide +kernel)
set_option maxRecDepth 65536 in
theorem w_c9 : (Jvm.Cond.code ({ cls := "java/lang/StringUTF16", name := "coderFromArrayLen", desc := "([BI)B" } : Jvm.MethodName) jdk_52_method_15_code (2 : Nat) (Option.some Jvm.ClassFile.FieldType.byte)).before args0 about1 = true := code_word (m := ⟨8, 1⟩) (meth := k8m1) (c := k8c1) (by decide +kernel) rfl rfl rfl (by decide +kernel)
set_option maxRecDepth 65536 in
theorem w_c10 : (Jvm.Cond.code ({ cls := "com/example/quire/quire/catalogue/RecordNumber", name := "parse", desc := "(Ljava/lang/String;)Lcom/example/quire/quire/catalogue/RecordNumber;" } : Jvm.MethodName) prog_12_method_2_code (1 : Nat) (Option.some (Jvm.ClassFile.FieldType.object "com/example/quire/quire/catalogue/RecordNumber"))).before args0 about1 = true := code_word (m := ⟨10, 1⟩) (meth := k10m1) (c := k10c1) (by decide +kernel) rfl rfl rfl (by decide +kernel)
set_option maxRecDepth 65536 in
theorem w_c11 : (Jvm.Cond.code ({ cls := "com/example/quire/quire/catalogue/WholeNumber", name := "parse", desc := "(Ljava/lang/String;Ljava/lang/String;)I" } : Jvm.MethodName) prog_19_method_2_code (2 : Nat) (Option.some Jvm.ClassFile.FieldType.int)).before args0 about1 = true := code_word (m := ⟨11, 1⟩) (meth := k11m1) (c := k11c1) (by decide +kernel) rfl rfl rfl (by decide +kernel)
set_option maxRecDepth 65536 in
theorem w_c12 : (Jvm.Cond.code ({ cls := "com/example/quire/quire/catalogue/WholeNumber", name := "parse", desc := "(Ljava/lang/String;Ljava/lang/String;II)I" } : Jvm.MethodName) prog_19_method_3_code (8 : Nat) (Option.some Jvm.ClassFile.FieldType.int)).before args0 about1 = true := code_word (m := ⟨11, 2⟩) (meth := k11m2) (c := k11c2) (by decide +kernel) rfl rfl rfl (by decide +kernel)
set_option maxRecDepth 65536 in
theorem w_c13 : (Jvm.Cond.code ({ cls := "java/lang/String", name := "isEmpty", desc := "()Z" } : Jvm.MethodName) jdk_42_method_55_code (1 : Nat) (Option.some Jvm.ClassFile.FieldType.boolean)).before args0 about1 = true := code_word (m := ⟨7, 3⟩) (meth := k7m3) (c := k7c3) (by decide +kernel) rfl rfl rfl (by decide +kernel)
set_option maxRecDepth 65536 in
theorem w_c14 : (Jvm.Cond.code ({ cls := "java/lang/String", name := "length", desc := "()I" } : Jvm.MethodName) jdk_42_method_54_code (1 : Nat) (Option.some Jvm.ClassFile.FieldType.int)).before args0 about1 = true := code_word (m := ⟨7, 2⟩) (meth := k7m2) (c := k7c2) (by decide +kernel) rfl rfl rfl (by decide +kernel)
set_option maxRecDepth 65536 in
theorem w_c15 : (Jvm.Cond.code ({ cls := "java/lang/String", name := "coder", desc := "()B" } : Jvm.MethodName) jdk_42_method_152_code (1 : Nat) (Option.some Jvm.ClassFile.FieldType.byte)).before args0 about1 = true := code_word (m := ⟨7, 6⟩) (meth := k7m6) (c := k7c6) (by decide +kernel) rfl rfl rfl (by decide +kernel)
set_option maxRecDepth 65536 in
theorem w_c16 : (Jvm.Cond.code ({ cls := "java/lang/String", name := "charAt", desc := "(I)C" } : Jvm.MethodName) jdk_42_method_56_code (2 : Nat) (Option.some Jvm.ClassFile.FieldType.char)).before args0 about1 = true := code_word (m := ⟨7, 4⟩) (meth := k7m4) (c := k7c4) (by decide +kernel) rfl rfl rfl (by decide +kernel)
set_option maxRecDepth 65536 in
theorem w_c17 : (Jvm.Cond.code ({ cls := "java/lang/String", name := "isLatin1", desc := "()Z" } : Jvm.MethodName) jdk_42_method_154_code (1 : Nat) (Option.some Jvm.ClassFile.FieldType.boolean)).before args0 about1 = true := code_word (m := ⟨7, 7⟩) (meth := k7m7) (c := k7c7) (by decide +kernel) rfl rfl rfl (by decide +kernel)
set_option maxRecDepth 65536 in
theorem w_c18 : (Jvm.Cond.code ({ cls := "java/lang/StringLatin1", name := "charAt", desc := "([BI)C" } : Jvm.MethodName) jdk_43_method_2_code (2 : Nat) (Option.some Jvm.ClassFile.FieldType.char)).before args0 about1 = true := code_word (m := ⟨12, 1⟩) (meth := k12m1) (c := k12c1) (by decide +kernel) rfl rfl rfl (by decide +kernel)
set_option maxRecDepth 65536 in
theorem w_c19 : (Jvm.Cond.code ({ cls := "java/lang/String", name := "checkIndex", desc := "(II)V" } : Jvm.MethodName) jdk_42_method_155_code (2 : Nat) (Option.none : Option Jvm.ClassFile.FieldType)).before args0 about1 = true := code_word (m := ⟨7, 8⟩) (meth := k7m8) (c := k7c8) (by decide +kernel) rfl rfl rfl (by decide +kernel)
set_option maxRecDepth 65536 in
theorem w_c20 : (Jvm.Cond.code ({ cls := "jdk/internal/util/Preconditions", name := "checkIndex", desc := "(IILjava/util/function/BiFunction;)I" } : Jvm.MethodName) jdk_41_method_11_code (3 : Nat) (Option.some Jvm.ClassFile.FieldType.int)).before args0 about1 = true := code_word (m := ⟨13, 1⟩) (meth := k13m1) (c := k13c1) (by decide +kernel) rfl rfl rfl (by decide +kernel)
set_option maxRecDepth 65536 in
theorem w_c21 : (Jvm.Cond.code ({ cls := "com/example/quire/quire/catalogue/RecordNumber", name := "<init>", desc := "(I)V" } : Jvm.MethodName) prog_12_method_1_code (2 : Nat) (Option.none : Option Jvm.ClassFile.FieldType)).before args0 about1 = true := code_word (m := ⟨10, 0⟩) (meth := k10m0) (c := k10c0) (by decide +kernel) rfl rfl rfl (by decide +kernel)
set_option maxRecDepth 65536 in
theorem w_c22 : (Jvm.Cond.code ({ cls := "java/lang/Record", name := "<init>", desc := "()V" } : Jvm.MethodName) jdk_30_method_1_code (1 : Nat) (Option.none : Option Jvm.ClassFile.FieldType)).before args0 about1 = true := code_word (m := ⟨9, 0⟩) (meth := k9m0) (c := k9c0) (by decide +kernel) rfl rfl rfl (by decide +kernel)
set_option maxRecDepth 65536 in
theorem w_c23 : (Jvm.Cond.code ({ cls := "com/example/quire/quire/catalogue/RecordNumber", name := "value", desc := "()I" } : Jvm.MethodName) prog_12_method_6_code (1 : Nat) (Option.some Jvm.ClassFile.FieldType.int)).before args0 about1 = true := code_word (m := ⟨10, 2⟩) (meth := k10m2) (c := k10c2) (by decide +kernel) rfl rfl rfl (by decide +kernel)
def codes1 : List Jvm.Cond := [Jvm.Cond.code x code maxLocals ret, Jvm.Cond.code ({ cls := "com/example/quire/quire/catalogue/RecordNumberParsePinLaw", name := "dig", desc := "(II)C" } : Jvm.MethodName) method_2_code (2 : Nat) (Option.some Jvm.ClassFile.FieldType.char), Jvm.Cond.code ({ cls := "com/example/quire/quire/catalogue/RecordNumberParsePinLaw", name := "digitCount", desc := "(I)I" } : Jvm.MethodName) method_3_code (1 : Nat) (Option.some Jvm.ClassFile.FieldType.int), Jvm.Cond.code ({ cls := "com/example/quire/quire/catalogue/RecordNumberParsePinLaw", name := "tail", desc := "([CI)Ljava/lang/String;" } : Jvm.MethodName) method_4_code (2 : Nat) (Option.some (Jvm.ClassFile.FieldType.object "java/lang/String")), Jvm.Cond.code ({ cls := "java/lang/String", name := "<init>", desc := "([C)V" } : Jvm.MethodName) jdk_42_method_3_code (2 : Nat) (Option.none : Option Jvm.ClassFile.FieldType), Jvm.Cond.code ({ cls := "java/lang/String", name := "<init>", desc := "([CIILjava/lang/Void;)V" } : Jvm.MethodName) jdk_42_method_149_code (6 : Nat) (Option.none : Option Jvm.ClassFile.FieldType), Jvm.Cond.code ({ cls := "java/lang/Object", name := "<init>", desc := "()V" } : Jvm.MethodName) object_method_1_code (1 : Nat) (Option.none : Option Jvm.ClassFile.FieldType), Jvm.Cond.code ({ cls := "java/lang/StringUTF16", name := "compress", desc := "([CII)[B" } : Jvm.MethodName) jdk_52_method_16_code (6 : Nat) (Option.some (Jvm.ClassFile.FieldType.array Jvm.ClassFile.FieldType.byte)), Jvm.Cond.code ({ cls := "java/lang/StringUTF16", name := "compress", desc := "([CI[BII)I" } : Jvm.MethodName) jdk_52_method_21_code (7 : Nat) (Option.some Jvm.ClassFile.FieldType.int), Jvm.Cond.code ({ cls := "java/lang/StringUTF16", name := "coderFromArrayLen", desc := "([BI)B" } : Jvm.MethodName) jdk_52_method_15_code (2 : Nat) (Option.some Jvm.ClassFile.FieldType.byte), Jvm.Cond.code ({ cls := "com/example/quire/quire/catalogue/RecordNumber", name := "parse", desc := "(Ljava/lang/String;)Lcom/example/quire/quire/catalogue/RecordNumber;" } : Jvm.MethodName) prog_12_method_2_code (1 : Nat) (Option.some (Jvm.ClassFile.FieldType.object "com/example/quire/quire/catalogue/RecordNumber")), Jvm.Cond.code ({ cls := "com/example/quire/quire/catalogue/WholeNumber", name := "parse", desc := "(Ljava/lang/String;Ljava/lang/String;)I" } : Jvm.MethodName) prog_19_method_2_code (2 : Nat) (Option.some Jvm.ClassFile.FieldType.int), Jvm.Cond.code ({ cls := "com/example/quire/quire/catalogue/WholeNumber", name := "parse", desc := "(Ljava/lang/String;Ljava/lang/String;II)I" } : Jvm.MethodName) prog_19_method_3_code (8 : Nat) (Option.some Jvm.ClassFile.FieldType.int), Jvm.Cond.code ({ cls := "java/lang/String", name := "isEmpty", desc := "()Z" } : Jvm.MethodName) jdk_42_method_55_code (1 : Nat) (Option.some Jvm.ClassFile.FieldType.boolean), Jvm.Cond.code ({ cls := "java/lang/String", name := "length", desc := "()I" } : Jvm.MethodName) jdk_42_method_54_code (1 : Nat) (Option.some Jvm.ClassFile.FieldType.int), Jvm.Cond.code ({ cls := "java/lang/String", name := "coder", desc := "()B" } : Jvm.MethodName) jdk_42_method_152_code (1 : Nat) (Option.some Jvm.ClassFile.FieldType.byte), Jvm.Cond.code ({ cls := "java/lang/String", name := "charAt", desc := "(I)C" } : Jvm.MethodName) jdk_42_method_56_code (2 : Nat) (Option.some Jvm.ClassFile.FieldType.char), Jvm.Cond.code ({ cls := "java/lang/String", name := "isLatin1", desc := "()Z" } : Jvm.MethodName) jdk_42_method_154_code (1 : Nat) (Option.some Jvm.ClassFile.FieldType.boolean), Jvm.Cond.code ({ cls := "java/lang/StringLatin1", name := "charAt", desc := "([BI)C" } : Jvm.MethodName) jdk_43_method_2_code (2 : Nat) (Option.some Jvm.ClassFile.FieldType.char), Jvm.Cond.code ({ cls := "java/lang/String", name := "checkIndex", desc := "(II)V" } : Jvm.MethodName) jdk_42_method_155_code (2 : Nat) (Option.none : Option Jvm.ClassFile.FieldType), Jvm.Cond.code ({ cls := "jdk/internal/util/Preconditions", name := "checkIndex", desc := "(IILjava/util/function/BiFunction;)I" } : Jvm.MethodName) jdk_41_method_11_code (3 : Nat) (Option.some Jvm.ClassFile.FieldType.int), Jvm.Cond.code ({ cls := "com/example/quire/quire/catalogue/RecordNumber", name := "<init>", desc := "(I)V" } : Jvm.MethodName) prog_12_method_1_code (2 : Nat) (Option.none : Option Jvm.ClassFile.FieldType), Jvm.Cond.code ({ cls := "java/lang/Record", name := "<init>", desc := "()V" } : Jvm.MethodName) jdk_30_method_1_code (1 : Nat) (Option.none : Option Jvm.ClassFile.FieldType), Jvm.Cond.code ({ cls := "com/example/quire/quire/catalogue/RecordNumber", name := "value", desc := "()I" } : Jvm.MethodName) prog_12_method_6_code (1 : Nat) (Option.some Jvm.ClassFile.FieldType.int)]
set_option maxRecDepth 65536 in
theorem codes_eq : words1.filter isCode = codes1 := rfl
theorem w_codes : ∀ c ∈ words1.filter isCode, c.before args0 about1 = true := by
  rw [codes_eq]
  intro c hc
  simp only [codes1, List.mem_cons, List.not_mem_nil, or_false] at hc
  rcases hc with rfl | rfl | rfl | rfl | rfl | rfl | rfl | rfl | rfl | rfl | rfl | rfl | rfl | rfl | rfl | rfl | rfl | rfl | rfl | rfl | rfl | rfl | rfl | rfl
  · exact w_c0
  · exact w_c1
  · exact w_c2
  · exact w_c3
  · exact w_c4
  · exact w_c5
  · exact w_c6
  · exact w_c7
  · exact w_c8
  · exact w_c9
  · exact w_c10
  · exact w_c11
  · exact w_c12
  · exact w_c13
  · exact w_c14
  · exact w_c15
  · exact w_c16
  · exact w_c17
  · exact w_c18
  · exact w_c19
  · exact w_c20
  · exact w_c21
  · exact w_c22
  · exact w_c23
set_option maxRecDepth 65536 in
theorem w_t1 : (words1.take 24).all (fun c => isCode c || c.before args0 about1) = true := by decide +kernel
set_option maxRecDepth 65536 in
theorem w_t2 : ((words1.drop 24).take 24).all (fun c => isCode c || c.before args0 about1) = true := by decide +kernel
set_option maxRecDepth 65536 in
theorem w_t3 : (((words1.drop 24).drop 24).take 24).all (fun c => isCode c || c.before args0 about1) = true := by decide +kernel
set_option maxRecDepth 65536 in
theorem w_t4 : ((((words1.drop 24).drop 24).drop 24).take 24).all (fun c => isCode c || c.before args0 about1) = true := by decide +kernel
set_option maxRecDepth 65536 in
theorem w_t5 : ((((words1.drop 24).drop 24).drop 24).drop 24).all (fun c => isCode c || c.before args0 about1) = true := by decide +kernel
theorem w_tables : (allAtoms (Jvm.Cond.code x code maxLocals ret :: tables_1)).before args0 about1 = true := by
  rw [allAtoms_all]
  show words1.all (fun c => c.before args0 about1) = true
  refine all_split ?_ w_codes
  rw [← List.take_append_drop 24 words1, List.all_append, w_t1, ← List.take_append_drop 24 (words1.drop 24), List.all_append, w_t2, ← List.take_append_drop 24 ((words1.drop 24).drop 24), List.all_append, w_t3, ← List.take_append_drop 24 (((words1.drop 24).drop 24).drop 24), List.all_append, w_t4, w_t5]
  rfl
set_option maxRecDepth 65536 in
theorem w_rest : rest_1_c.before args0 about1 = true := by decide +kernel
set_option maxRecDepth 65536 in
theorem w_case : (Jvm.Cond.and given_1 narrow_1).before args0 about1 = true := by decide +kernel
theorem w_applies : (headSpec (Jvm.Cond.code x code maxLocals ret :: tables_1) room_1).applies x e0.platform about1 = true :=
  (Spec.applies_iff w_frames).mpr ⟨w_running, w_runnable, w_alone, w_named, w_hears, w_ripe, w_room, w_tables⟩
theorem atStart : AtStart classFile x code maxLocals ret World_1 tables_1 room_1 Calls_1 rest_1 Pre_1 launch0 p0 e0 about1 theMethod args0 below0 :=
  ⟨lists_1, trivial, launch0.admits_env _ _ _, launch0.least_env, fairChoices_fair.cas, fairChoices_fair.clock, w_frames, w_args, w_heap, w_applies, trivial, w_rest, w_case⟩
end start1
theorem witness_1 : WitnessClaimed_1 := ⟨start1.p0, start1.e0, start1.about1, start1.theMethod, start1.args0, start1.below0, start1.atStart⟩
end Jvm.Pilot.@@N@@
