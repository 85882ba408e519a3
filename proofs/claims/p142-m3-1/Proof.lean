import JvmDerived
import JvmDerived.Pilot.@@N@@Statement
import JvmDerived.Pilot.@@N@@Code
set_option linter.unusedVariables false
set_option linter.unusedSimpArgs false
namespace Jvm.Pilot.@@N@@
namespace Own
open Jvm Jvm.ClassFile Sem Op Lib Jvm.Free Jvm.Stand Jvm.LawKit Jvm.RoadKit Bundle
/-! A small logic of walks over the library's Stand: WP says that the run from a frame returns well; one rule an instruction; a callee by Con. -/
abbrev Ctx : Type := Program × Env × Room × State × MethodId × Array Value × List Frame × Method × Code
abbrev Ctx.p (K : Ctx) : Program := K.1
abbrev Ctx.e (K : Ctx) : Env := K.2.1
abbrev Ctx.R (K : Ctx) : Room := K.2.2.1
abbrev Ctx.s (K : Ctx) : State := K.2.2.2.1
abbrev Ctx.m (K : Ctx) : MethodId := K.2.2.2.2.1
abbrev Ctx.args (K : Ctx) : Array Value := K.2.2.2.2.2.1
abbrev Ctx.below (K : Ctx) : List Frame := K.2.2.2.2.2.2.1
abbrev Ctx.meth (K : Ctx) : Method := K.2.2.2.2.2.2.2.1
abbrev Ctx.c (K : Ctx) : Code := K.2.2.2.2.2.2.2.2
/-- addresses that may be written: new since the law's start, no constant's cell -/
def Owned (Z : State) (EL : List (String × Nat)) (n0 : Nat) (h0 : Heap) (ws0 : List Addr) (vm : Vm) (h : Heap) (ws : List Addr) : Prop :=
  ∀ x ∈ ws, n0 ≤ x ∧ x < h.size ∧ Safe Z EL vm h x ∧ (x ∈ ws0 ∨ h0.size ≤ x)
def Pos (l : Launch) (Z : State) (EL : List (String × Nat)) (n0 : Nat) (own : String) (h0 : Heap) (ws0 : List Addr) (K : Ctx) (h : Heap) (ws : List Addr) (cells slots : Nat) (vm : Vm) (T : State) (locs : List Loc) : Prop :=
  Stand K.p l K.e K.R (K.s.setVm vm) K.m K.args K.below K.meth K.c T locs cells slots ∧ T.heap = h ∧ (∃ k, K.s.Since vm k ∧ k ≤ h.size) ∧ Z.Warmed39 vm ∧ vm.findClass own = some K.m.cls ∧
  CHr Z EL K.s.vm h0 vm h ∧ Fr n0 locs ∧ Keep h0 h ws0 ∧ Old Z n0 h ∧ Owned Z EL n0 h0 ws0 vm h ws
def Fine (Z : State) (EL : List (String × Nat)) (n0 : Nat) (h0 : Heap) (ws0 : List Addr) (Q : Option Value → Heap → Prop) (cl sl : Nat) (s : State) (o : Outcome) (t : State) : Prop :=
  ∃ v L, o = .returned v ∧ (Q v t.heap ∧ Keep h0 t.heap ws0 ∧ Fr n0 L) ∧ CHr Z EL s.vm h0 t.vm t.heap ∧ ReturnedEndW s o t L cl sl
def Goes (Z : State) (EL : List (String × Nat)) (n0 : Nat) (h0 : Heap) (ws0 : List Addr) (Q : Option Value → Heap → Prop) (K : Ctx) (S : State) : Prop :=
  ∃ s₂ o, Steps K.p.tables K.e K.below S s₂ ∧ s₂.status = .running ∧ Ended s₂ K.below o ∧ Fine Z EL n0 h0 ws0 Q K.R.cells K.R.slots K.s o s₂
def WP (l : Launch) (Z : State) (EL : List (String × Nat)) (n0 : Nat) (own : String) (h0 : Heap) (ws0 : List Addr) (Q : Option Value → Heap → Prop) (K : Ctx) (h : Heap) (ws : List Addr) (cells slots : Nat) (g : JFrame) : Prop :=
  ∀ (vm : Vm) (T : State) (locs : List Loc), Pos l Z EL n0 own h0 ws0 K h ws cells slots vm T locs → Goes Z EL n0 h0 ws0 Q K (T.setTop g)
/-- what the walk knows of its own method -/
def Ok (l : Launch) (Z : State) (a0 : Array Value) (EL : List (String × Nat)) (n0 : Nat) (own : String) (h0 : Heap) (ws0 : List Addr) (Q : Option Value → Heap → Prop) (code : ByteArray) (maxL : Nat) (ret : Option FieldType) (nm : String) (rm : Room) (K : Ctx) : Prop :=
  K.p.tables.exec = Jvm.exec ∧ EW Z a0 EL ∧ K.c.code = code ∧ K.c.maxLocals = maxL ∧ K.meth.sig.returnType = ret ∧ K.meth.name = nm ∧ K.meth.locks = false ∧ K.R = rm
/-- a method's law, as its body gives it -/
def Met (l : Launch) (Z : State) (EL : List (String × Nat)) (n0 : Nat) (y : MethodName) (bytes : ByteArray) (maxL : Nat) (ret : Option FieldType) (rm : Room) (cs : List Jvm.Cond) (as : Array Value) (h : Heap) (ws : List Addr) (Q : Option Value → Heap → Prop) : Prop :=
  MetFree l y (head1 (Jvm.Cond.code y bytes maxL ret :: cs) rm) (fun a U => a = as ∧ Z.Warmed39 U.vm ∧ U.heap = h ∧ CHv Z EL U.vm h ∧ Old Z n0 h ∧ ∀ x ∈ ws, n0 ≤ x ∧ x < h.size ∧ Safe Z EL U.vm h x) (fun _ _ _ _ _ => True)
    (fun _ U o U' => Fine Z EL n0 h ws Q rm.cells rm.slots U o U')
/-- a method's law, as a caller takes it -/
def Con (l : Launch) (Z : State) (a0 : Array Value) (EL : List (String × Nat)) (n0 : Nat) (y : MethodName) (fr lo cl sl : Nat) (as : Array Value) (h : Heap) (ws : List Addr) (Q : Option Value → Heap → Prop) : Prop :=
  ∀ (R : Room) (p : Program) (e : Env) (below : List Frame) (s : State) (args : Array Value) (len W : Nat) (vm0 : Vm), Z.Warmed39 vm0 → EW Z a0 EL → CHv Z EL vm0 h → Old Z n0 h → (∀ x ∈ ws, n0 ≤ x ∧ x < h.size ∧ Safe Z EL vm0 h x) → fr ≤ R.frames → W + lo ≤ R.locals →
    BackS l R p e below (s.setVm vm0) args y len W (fun A a => a = as ∧ A.U.heap = h ∧ A.cells + cl ≤ R.cells ∧ A.slots + sl ≤ R.slots)
      (fun A _ v B => ∃ L, (Q v B.U.heap ∧ Keep h B.U.heap ws ∧ Fr n0 L) ∧ B.locs = A.locs ++ L ∧ B.cells = A.cells + cl ∧ B.slots = A.slots + sl ∧ CHr Z EL vm0 h B.U.vm B.U.heap)
section Rules
variable {l : Launch} {Z : State} {a0 : Array Value} {EL : List (String × Nat)} {n0 : Nat} {own : String} {h0 : Heap} {ws0 : List Addr} {Q : Option Value → Heap → Prop} {code : ByteArray} {maxL : Nat} {ret : Option FieldType} {nm : String} {rm : Room} {K : Ctx} {h : Heap} {ws : List Addr} {cells slots pc : Nat} {Ls : Array Slot} {st : List Value} {g g' : JFrame}
theorem Goes.of {S S' : State} (f : ∀ t, Steps K.p.tables K.e K.below S' t → Steps K.p.tables K.e K.below S t) (k : Goes Z EL n0 h0 ws0 Q K S') : Goes Z EL n0 h0 ws0 Q K S := by
  obtain ⟨s₂, o, h1, h2⟩ := k
  exact ⟨s₂, o, f _ h1, h2⟩
abbrev Ok.W (C : Ok l Z a0 EL n0 own h0 ws0 Q code maxL ret nm rm K) (h : Heap) (ws : List Addr) (cells slots : Nat) (g : JFrame) : Prop := WP l Z EL n0 own h0 ws0 Q K h ws cells slots g
theorem Ok.exec (C : Ok l Z a0 EL n0 own h0 ws0 Q code maxL ret nm rm K) : K.p.tables.exec = Jvm.exec := C.1
theorem Ok.ew (C : Ok l Z a0 EL n0 own h0 ws0 Q code maxL ret nm rm K) : EW Z a0 EL := C.2.1
theorem Ok.bytes (C : Ok l Z a0 EL n0 own h0 ws0 Q code maxL ret nm rm K) : K.c.code = code := C.2.2.1
theorem Ok.maxl (C : Ok l Z a0 EL n0 own h0 ws0 Q code maxL ret nm rm K) : K.c.maxLocals = maxL := C.2.2.2.1
theorem Ok.rets (C : Ok l Z a0 EL n0 own h0 ws0 Q code maxL ret nm rm K) : K.meth.sig.returnType = ret := C.2.2.2.2.1
theorem Ok.named (C : Ok l Z a0 EL n0 own h0 ws0 Q code maxL ret nm rm K) : K.meth.name = nm := C.2.2.2.2.2.1
theorem Ok.unlocked (C : Ok l Z a0 EL n0 own h0 ws0 Q code maxL ret nm rm K) : K.meth.locks = false := C.2.2.2.2.2.2.1
theorem Ok.room (C : Ok l Z a0 EL n0 own h0 ws0 Q code maxL ret nm rm K) : K.R = rm := C.2.2.2.2.2.2.2
theorem WP.step (f : ∀ vm T locs, Pos l Z EL n0 own h0 ws0 K h ws cells slots vm T locs → ∀ t, Steps K.p.tables K.e K.below (T.setTop g') t → Steps K.p.tables K.e K.below (T.setTop g) t) (r : WP l Z EL n0 own h0 ws0 Q K h ws cells slots g') : WP l Z EL n0 own h0 ws0 Q K h ws cells slots g :=
  fun vm T locs P => Goes.of (f vm T locs P) (r vm T locs P)
/-- what a walk may lean on, wherever it stands -/
theorem Ok.know (C : Ok l Z a0 EL n0 own h0 ws0 Q code maxL ret nm rm K) (r : n0 ≤ h.size → Keep h0 h ws0 → Old Z n0 h → (∀ x ∈ ws, n0 ≤ x ∧ x < h.size) → WP l Z EL n0 own h0 ws0 Q K h ws cells slots g) : WP l Z EL n0 own h0 ws0 Q K h ws cells slots g :=
  fun vm T locs P => r (P.2.2.2.2.2.2.2.2.1.1 ▸ P.2.2.2.2.2.2.2.2.1.2.1) P.2.2.2.2.2.2.2.1 P.2.2.2.2.2.2.2.2.1 (fun x hx => ⟨(P.2.2.2.2.2.2.2.2.2 x hx).1, (P.2.2.2.2.2.2.2.2.2 x hx).2.1⟩) vm T locs P
theorem Pos.ext {vm : Vm} {T T' : State} {locs : List Loc} {h' : Heap} {cells' slots' : Nat} (P : Pos l Z EL n0 own h0 ws0 K h ws cells slots vm T locs) (X : Stand K.p l K.e K.R (K.s.setVm vm) K.m K.args K.below K.meth K.c T' locs cells' slots') (e : T'.heap = h') (E : Ext h h') :
    Pos l Z EL n0 own h0 ws0 K h' ws cells' slots' vm T' locs := by
  obtain ⟨-, -, ⟨k, hS, hk⟩, hZ, hown, H, N, Kp, O, Ow⟩ := P
  exact ⟨X, e, ⟨k, hS, Nat.le_trans hk E.1⟩, hZ, hown, H.trans (CHr.ext E H.1), N, Kp.ext E, O.ext E, fun x hx => ⟨(Ow x hx).1, Nat.lt_of_lt_of_le (Ow x hx).2.1 E.1, (Ow x hx).2.2.1.ext E H.1, (Ow x hx).2.2.2⟩⟩
theorem Pos.new {vm : Vm} {T T' : State} {locs : List Loc} {h' : Heap} {cells' slots' : Nat} (P : Pos l Z EL n0 own h0 ws0 K h ws cells slots vm T locs) (X : Stand K.p l K.e K.R (K.s.setVm vm) K.m K.args K.below K.meth K.c T' locs cells' slots') (e : T'.heap = h') (E : Ext h h') (hl : h.size < h'.size) :
    Pos l Z EL n0 own h0 ws0 K h' (h.size :: ws) cells' slots' vm T' locs := by
  have P' := P.ext X e E
  obtain ⟨-, -, -, -, -, H, -, Kp, O, -⟩ := P
  refine ⟨P'.1, P'.2.1, P'.2.2.1, P'.2.2.2.1, P'.2.2.2.2.1, P'.2.2.2.2.2.1, P'.2.2.2.2.2.2.1, P'.2.2.2.2.2.2.2.1, P'.2.2.2.2.2.2.2.2.1, fun x hx => ?_⟩
  rcases List.mem_cons.mp hx with rfl | hx
  · exact ⟨O.1 ▸ O.2.1, hl, (Safe.new (Nat.le_refl _)).ext E H.1, Or.inr Kp.1⟩
  · exact P'.2.2.2.2.2.2.2.2.2 x hx
theorem Pos.wr {vm : Vm} {T T' : State} {locs : List Loc} {h' : Heap} {a : Nat} {sl : Nat} {v : Value} (P : Pos l Z EL n0 own h0 ws0 K h ws cells slots vm T locs) (ha : a ∈ ws) (X : Stand K.p l K.e K.R (K.s.setVm vm) K.m K.args K.below K.meth K.c T' (locs ++ [⟨a, sl⟩]) cells slots) (e : T'.heap = h') (W : Wr h h' a sl v) :
    Pos l Z EL n0 own h0 ws0 K h' ws cells slots vm T' (locs ++ [⟨a, sl⟩]) := by
  obtain ⟨-, -, ⟨k, hS, hk⟩, hZ, hown, H, N, Kp, O, Ow⟩ := P
  obtain ⟨q1, q2, q3, q4⟩ := Ow a ha
  exact ⟨X, e, ⟨k, hS, W.size ▸ hk⟩, hZ, hown, H.trans (CHr.wr W q3 H.1), Fr.snoc X N q1, Kp.wr W q4, O.wr W q1, fun x hx => ⟨(Ow x hx).1, W.size ▸ (Ow x hx).2.1, Safe.wr W q3 H.1 (Ow x hx).2.2.1, (Ow x hx).2.2.2⟩⟩
/-! plain steps -/
theorem Ok.aloadN (C : Ok l Z a0 EL n0 own h0 ws0 Q code maxL ret nm rm K) {k : Fin 4} {v : Value} (hd : decode code pc = .ok (.aload_n k, 1)) (hl : Ls[k.val]? = some (.val v)) (hv : v.isRef = true) (r : WP l Z EL n0 own h0 ws0 Q K h ws cells slots (mkF K.m (pc + 1) Ls (v :: st))) : WP l Z EL n0 own h0 ws0 Q K h ws cells slots (mkF K.m pc Ls st) :=
  WP.step (fun _ _ _ P _ k => XS.aloadN P.1.here C.exec rfl (hb C.bytes hd) hl hv k) r
theorem Ok.aload (C : Ok l Z a0 EL n0 own h0 ws0 Q code maxL ret nm rm K) {k : Nat} {v : Value} (hd : decode code pc = .ok (.aload k, 2)) (hl : Ls[k]? = some (.val v)) (hv : v.isRef = true) (r : WP l Z EL n0 own h0 ws0 Q K h ws cells slots (mkF K.m (pc + 2) Ls (v :: st))) : WP l Z EL n0 own h0 ws0 Q K h ws cells slots (mkF K.m pc Ls st) :=
  WP.step (fun _ _ _ P _ k => XS.aload P.1.here C.exec rfl (hb C.bytes hd) hl hv k) r
theorem Ok.iloadN (C : Ok l Z a0 EL n0 own h0 ws0 Q code maxL ret nm rm K) {k : Fin 4} {v : Int32} (hd : decode code pc = .ok (.iload_n k, 1)) (hl : Ls[k.val]? = some (.val (.int v))) (r : WP l Z EL n0 own h0 ws0 Q K h ws cells slots (mkF K.m (pc + 1) Ls (.int v :: st))) : WP l Z EL n0 own h0 ws0 Q K h ws cells slots (mkF K.m pc Ls st) :=
  WP.step (fun _ _ _ P _ k => XS.iloadN P.1.here C.exec rfl (hb C.bytes hd) hl k) r
theorem Ok.iload (C : Ok l Z a0 EL n0 own h0 ws0 Q code maxL ret nm rm K) {k : Nat} {v : Int32} (hd : decode code pc = .ok (.iload k, 2)) (hl : Ls[k]? = some (.val (.int v))) (r : WP l Z EL n0 own h0 ws0 Q K h ws cells slots (mkF K.m (pc + 2) Ls (.int v :: st))) : WP l Z EL n0 own h0 ws0 Q K h ws cells slots (mkF K.m pc Ls st) :=
  WP.step (fun _ _ _ P _ k => XS.iload P.1.here C.exec rfl (hb C.bytes hd) hl k) r
theorem Ok.lloadN (C : Ok l Z a0 EL n0 own h0 ws0 Q code maxL ret nm rm K) {k : Fin 4} {v : Int64} (hd : decode code pc = .ok (.lload_n k, 1)) (hl : Ls[k.val]? = some (.val (.long v))) (r : WP l Z EL n0 own h0 ws0 Q K h ws cells slots (mkF K.m (pc + 1) Ls (.long v :: st))) : WP l Z EL n0 own h0 ws0 Q K h ws cells slots (mkF K.m pc Ls st) :=
  WP.step (fun _ _ _ P _ k => XS.lloadN P.1.here C.exec rfl (hb C.bytes hd) hl k) r
theorem Ok.lload (C : Ok l Z a0 EL n0 own h0 ws0 Q code maxL ret nm rm K) {k : Nat} {v : Int64} (hd : decode code pc = .ok (.lload k, 2)) (hl : Ls[k]? = some (.val (.long v))) (r : WP l Z EL n0 own h0 ws0 Q K h ws cells slots (mkF K.m (pc + 2) Ls (.long v :: st))) : WP l Z EL n0 own h0 ws0 Q K h ws cells slots (mkF K.m pc Ls st) :=
  WP.step (fun _ _ _ P _ k => XS.lload P.1.here C.exec rfl (hb C.bytes hd) hl k) r
theorem Ok.iconst (C : Ok l Z a0 EL n0 own h0 ws0 Q code maxL ret nm rm K) {i : Int} {v : Int32} (hd : decode code pc = .ok (.iconst i, 1)) (hv : Int32.ofInt i = v) (r : WP l Z EL n0 own h0 ws0 Q K h ws cells slots (mkF K.m (pc + 1) Ls (.int v :: st))) : WP l Z EL n0 own h0 ws0 Q K h ws cells slots (mkF K.m pc Ls st) := by
  subst hv; exact WP.step (fun _ _ _ P _ k => XS.iconst P.1.here C.exec rfl (hb C.bytes hd) k) r
theorem Ok.bipush (C : Ok l Z a0 EL n0 own h0 ws0 Q code maxL ret nm rm K) {i : Int} {v : Int32} (hd : decode code pc = .ok (.bipush i, 2)) (hv : (Int8.ofInt i).toInt32 = v) (r : WP l Z EL n0 own h0 ws0 Q K h ws cells slots (mkF K.m (pc + 2) Ls (.int v :: st))) : WP l Z EL n0 own h0 ws0 Q K h ws cells slots (mkF K.m pc Ls st) := by
  subst hv; exact WP.step (fun _ _ _ P _ k => XS.bipush P.1.here C.exec rfl (hb C.bytes hd) k) r
theorem Ok.sipush (C : Ok l Z a0 EL n0 own h0 ws0 Q code maxL ret nm rm K) {i : Int} {v : Int32} (hd : decode code pc = .ok (.sipush i, 3)) (hv : (Int16.ofInt i).toInt32 = v) (r : WP l Z EL n0 own h0 ws0 Q K h ws cells slots (mkF K.m (pc + 3) Ls (.int v :: st))) : WP l Z EL n0 own h0 ws0 Q K h ws cells slots (mkF K.m pc Ls st) := by
  subst hv; exact WP.step (fun _ _ _ P _ k => XS.sipush P.1.here C.exec rfl (hb C.bytes hd) k) r
theorem Ok.lconst (C : Ok l Z a0 EL n0 own h0 ws0 Q code maxL ret nm rm K) {i : Fin 2} (hd : decode code pc = .ok (.lconst i, 1)) {v : Int64} (hv : Int64.ofNat i.val = v) (r : WP l Z EL n0 own h0 ws0 Q K h ws cells slots (mkF K.m (pc + 1) Ls (.long v :: st))) : WP l Z EL n0 own h0 ws0 Q K h ws cells slots (mkF K.m pc Ls st) := by
  subst hv; exact WP.step (fun _ _ _ P _ k => XS.lconst P.1.here C.exec rfl (hb C.bytes hd) k) r
theorem Ok.aconstNull (C : Ok l Z a0 EL n0 own h0 ws0 Q code maxL ret nm rm K) (hd : decode code pc = .ok (.aconst_null, 1)) (r : WP l Z EL n0 own h0 ws0 Q K h ws cells slots (mkF K.m (pc + 1) Ls (.null :: st))) : WP l Z EL n0 own h0 ws0 Q K h ws cells slots (mkF K.m pc Ls st) :=
  WP.step (fun _ _ _ P _ k => XS.aconstNull P.1.here C.exec rfl (hb C.bytes hd) k) r
theorem Ok.ldcInt (C : Ok l Z a0 EL n0 own h0 ws0 Q code maxL ret nm rm K) {index : Nat} {v : Int32} (w : (Jvm.Cond.constant own index v).before a0 Z = true) (hd : decode code pc = .ok (.ldc index, 2)) (r : WP l Z EL n0 own h0 ws0 Q K h ws cells slots (mkF K.m (pc + 2) Ls (.int v :: st))) : WP l Z EL n0 own h0 ws0 Q K h ws cells slots (mkF K.m pc Ls st) :=
  WP.step (fun _ _ _ P t k => P.1.ldcInt C.exec P.2.2.2.2.1 (mv P.2.2.2.1 w) (g := mkF K.m pc Ls st) rfl (hb C.bytes hd) t k) r
theorem Ok.ldcwInt (C : Ok l Z a0 EL n0 own h0 ws0 Q code maxL ret nm rm K) {index : Nat} {v : Int32} (w : (Jvm.Cond.constant own index v).before a0 Z = true) (hd : decode code pc = .ok (.ldc_w index, 3)) (r : WP l Z EL n0 own h0 ws0 Q K h ws cells slots (mkF K.m (pc + 3) Ls (.int v :: st))) : WP l Z EL n0 own h0 ws0 Q K h ws cells slots (mkF K.m pc Ls st) :=
  WP.step (fun _ _ _ P t k => P.1.ldcwInt C.exec P.2.2.2.2.1 (mv P.2.2.2.1 w) (g := mkF K.m pc Ls st) rfl (hb C.bytes hd) t k) r
theorem Ok.ldc2Long (C : Ok l Z a0 EL n0 own h0 ws0 Q code maxL ret nm rm K) {index : Nat} {v : Int64} (w : (Jvm.Cond.constantLong own index v).before a0 Z = true) (hd : decode code pc = .ok (.ldc2_w index, 3)) (r : WP l Z EL n0 own h0 ws0 Q K h ws cells slots (mkF K.m (pc + 3) Ls (.long v :: st))) : WP l Z EL n0 own h0 ws0 Q K h ws cells slots (mkF K.m pc Ls st) :=
  WP.step (fun _ _ _ P t k => P.1.ldc2Long C.exec P.2.2.2.2.1 (mv P.2.2.2.1 w) (g := mkF K.m pc Ls st) rfl (hb C.bytes hd) t k) r
theorem Ok.iadd (C : Ok l Z a0 EL n0 own h0 ws0 Q code maxL ret nm rm K) {x y : Int32} (hd : decode code pc = .ok (.iadd, 1)) (r : WP l Z EL n0 own h0 ws0 Q K h ws cells slots (mkF K.m (pc + 1) Ls (.int (x + y) :: st))) : WP l Z EL n0 own h0 ws0 Q K h ws cells slots (mkF K.m pc Ls (.int y :: .int x :: st)) :=
  WP.step (fun _ _ _ P _ k => XS.iadd P.1.here C.exec rfl (hb C.bytes hd) rfl k) r
theorem Ok.isub (C : Ok l Z a0 EL n0 own h0 ws0 Q code maxL ret nm rm K) {x y : Int32} (hd : decode code pc = .ok (.isub, 1)) (r : WP l Z EL n0 own h0 ws0 Q K h ws cells slots (mkF K.m (pc + 1) Ls (.int (x - y) :: st))) : WP l Z EL n0 own h0 ws0 Q K h ws cells slots (mkF K.m pc Ls (.int y :: .int x :: st)) :=
  WP.step (fun _ _ _ P _ k => XS.isub P.1.here C.exec rfl (hb C.bytes hd) rfl k) r
theorem Ok.imul (C : Ok l Z a0 EL n0 own h0 ws0 Q code maxL ret nm rm K) {x y : Int32} (hd : decode code pc = .ok (.imul, 1)) (r : WP l Z EL n0 own h0 ws0 Q K h ws cells slots (mkF K.m (pc + 1) Ls (.int (x * y) :: st))) : WP l Z EL n0 own h0 ws0 Q K h ws cells slots (mkF K.m pc Ls (.int y :: .int x :: st)) :=
  WP.step (fun _ _ _ P _ k => XS.imul P.1.here C.exec rfl (hb C.bytes hd) rfl k) r
theorem Ok.iand (C : Ok l Z a0 EL n0 own h0 ws0 Q code maxL ret nm rm K) {x y : Int32} (hd : decode code pc = .ok (.iand, 1)) (r : WP l Z EL n0 own h0 ws0 Q K h ws cells slots (mkF K.m (pc + 1) Ls (.int (x &&& y) :: st))) : WP l Z EL n0 own h0 ws0 Q K h ws cells slots (mkF K.m pc Ls (.int y :: .int x :: st)) :=
  WP.step (fun _ _ _ P _ k => XS.iand P.1.here C.exec rfl (hb C.bytes hd) rfl k) r
theorem Ok.ior (C : Ok l Z a0 EL n0 own h0 ws0 Q code maxL ret nm rm K) {x y : Int32} (hd : decode code pc = .ok (.ior, 1)) (r : WP l Z EL n0 own h0 ws0 Q K h ws cells slots (mkF K.m (pc + 1) Ls (.int (x ||| y) :: st))) : WP l Z EL n0 own h0 ws0 Q K h ws cells slots (mkF K.m pc Ls (.int y :: .int x :: st)) :=
  WP.step (fun _ _ _ P _ k => XS.ior P.1.here C.exec rfl (hb C.bytes hd) rfl k) r
theorem Ok.ixor (C : Ok l Z a0 EL n0 own h0 ws0 Q code maxL ret nm rm K) {x y : Int32} (hd : decode code pc = .ok (.ixor, 1)) (r : WP l Z EL n0 own h0 ws0 Q K h ws cells slots (mkF K.m (pc + 1) Ls (.int (x ^^^ y) :: st))) : WP l Z EL n0 own h0 ws0 Q K h ws cells slots (mkF K.m pc Ls (.int y :: .int x :: st)) :=
  WP.step (fun _ _ _ P _ k => XS.ixor P.1.here C.exec rfl (hb C.bytes hd) rfl k) r
theorem Ok.ladd (C : Ok l Z a0 EL n0 own h0 ws0 Q code maxL ret nm rm K) {x y : Int64} (hd : decode code pc = .ok (.ladd, 1)) (r : WP l Z EL n0 own h0 ws0 Q K h ws cells slots (mkF K.m (pc + 1) Ls (.long (x + y) :: st))) : WP l Z EL n0 own h0 ws0 Q K h ws cells slots (mkF K.m pc Ls (.long y :: .long x :: st)) :=
  WP.step (fun _ _ _ P _ k => XS.ladd P.1.here C.exec rfl (hb C.bytes hd) rfl k) r
theorem Ok.lsub (C : Ok l Z a0 EL n0 own h0 ws0 Q code maxL ret nm rm K) {x y : Int64} (hd : decode code pc = .ok (.lsub, 1)) (r : WP l Z EL n0 own h0 ws0 Q K h ws cells slots (mkF K.m (pc + 1) Ls (.long (x - y) :: st))) : WP l Z EL n0 own h0 ws0 Q K h ws cells slots (mkF K.m pc Ls (.long y :: .long x :: st)) :=
  WP.step (fun _ _ _ P _ k => XS.lsub P.1.here C.exec rfl (hb C.bytes hd) rfl k) r
theorem Ok.land (C : Ok l Z a0 EL n0 own h0 ws0 Q code maxL ret nm rm K) {x y : Int64} (hd : decode code pc = .ok (.land, 1)) (r : WP l Z EL n0 own h0 ws0 Q K h ws cells slots (mkF K.m (pc + 1) Ls (.long (x &&& y) :: st))) : WP l Z EL n0 own h0 ws0 Q K h ws cells slots (mkF K.m pc Ls (.long y :: .long x :: st)) :=
  WP.step (fun _ _ _ P _ k => XS.land P.1.here C.exec rfl (hb C.bytes hd) rfl k) r
theorem Ok.i2c (C : Ok l Z a0 EL n0 own h0 ws0 Q code maxL ret nm rm K) {x : Int32} (hd : decode code pc = .ok (.i2c, 1)) (r : WP l Z EL n0 own h0 ws0 Q K h ws cells slots (mkF K.m (pc + 1) Ls (.int (x.toUInt32.toUInt16.toUInt32.toInt32) :: st))) : WP l Z EL n0 own h0 ws0 Q K h ws cells slots (mkF K.m pc Ls (.int x :: st)) :=
  WP.step (fun _ _ _ P _ k => XS.i2c P.1.here C.exec rfl (hb C.bytes hd) rfl k) r
theorem Ok.i2b (C : Ok l Z a0 EL n0 own h0 ws0 Q code maxL ret nm rm K) {x : Int32} (hd : decode code pc = .ok (.i2b, 1)) (r : WP l Z EL n0 own h0 ws0 Q K h ws cells slots (mkF K.m (pc + 1) Ls (.int (x.toInt8.toInt32) :: st))) : WP l Z EL n0 own h0 ws0 Q K h ws cells slots (mkF K.m pc Ls (.int x :: st)) :=
  WP.step (fun _ _ _ P _ k => XS.i2b P.1.here C.exec rfl (hb C.bytes hd) rfl k) r
theorem Ok.i2l (C : Ok l Z a0 EL n0 own h0 ws0 Q code maxL ret nm rm K) {x : Int32} (hd : decode code pc = .ok (.i2l, 1)) (r : WP l Z EL n0 own h0 ws0 Q K h ws cells slots (mkF K.m (pc + 1) Ls (.long (x.toInt64) :: st))) : WP l Z EL n0 own h0 ws0 Q K h ws cells slots (mkF K.m pc Ls (.int x :: st)) :=
  WP.step (fun _ _ _ P _ k => XS.i2l P.1.here C.exec rfl (hb C.bytes hd) rfl k) r
theorem Ok.l2i (C : Ok l Z a0 EL n0 own h0 ws0 Q code maxL ret nm rm K) {x : Int64} (hd : decode code pc = .ok (.l2i, 1)) (r : WP l Z EL n0 own h0 ws0 Q K h ws cells slots (mkF K.m (pc + 1) Ls (.int (x.toInt32) :: st))) : WP l Z EL n0 own h0 ws0 Q K h ws cells slots (mkF K.m pc Ls (.long x :: st)) :=
  WP.step (fun _ _ _ P _ k => XS.l2i P.1.here C.exec rfl (hb C.bytes hd) rfl k) r
theorem Ok.ineg (C : Ok l Z a0 EL n0 own h0 ws0 Q code maxL ret nm rm K) {x : Int32} (hd : decode code pc = .ok (.ineg, 1)) (r : WP l Z EL n0 own h0 ws0 Q K h ws cells slots (mkF K.m (pc + 1) Ls (.int (-x) :: st))) : WP l Z EL n0 own h0 ws0 Q K h ws cells slots (mkF K.m pc Ls (.int x :: st)) :=
  WP.step (fun _ _ _ P _ k => XS.ineg P.1.here C.exec rfl (hb C.bytes hd) rfl k) r
theorem Ok.ishl (C : Ok l Z a0 EL n0 own h0 ws0 Q code maxL ret nm rm K) {x y : Int32} (hd : decode code pc = .ok (.ishl, 1)) (r : WP l Z EL n0 own h0 ws0 Q K h ws cells slots (mkF K.m (pc + 1) Ls (.int (x <<< (y &&& 31)) :: st))) : WP l Z EL n0 own h0 ws0 Q K h ws cells slots (mkF K.m pc Ls (.int y :: .int x :: st)) :=
  WP.step (fun _ _ _ P _ k => XS.ishl P.1.here C.exec rfl (hb C.bytes hd) rfl k) r
theorem Ok.ishr (C : Ok l Z a0 EL n0 own h0 ws0 Q code maxL ret nm rm K) {x y : Int32} (hd : decode code pc = .ok (.ishr, 1)) (r : WP l Z EL n0 own h0 ws0 Q K h ws cells slots (mkF K.m (pc + 1) Ls (.int (x >>> (y &&& 31)) :: st))) : WP l Z EL n0 own h0 ws0 Q K h ws cells slots (mkF K.m pc Ls (.int y :: .int x :: st)) :=
  WP.step (fun _ _ _ P _ k => XS.ishr P.1.here C.exec rfl (hb C.bytes hd) rfl k) r
theorem Ok.iushr (C : Ok l Z a0 EL n0 own h0 ws0 Q code maxL ret nm rm K) {x y : Int32} (hd : decode code pc = .ok (.iushr, 1)) (r : WP l Z EL n0 own h0 ws0 Q K h ws cells slots (mkF K.m (pc + 1) Ls (.int (x.toUInt32 >>> (y &&& 31).toUInt32).toInt32 :: st))) : WP l Z EL n0 own h0 ws0 Q K h ws cells slots (mkF K.m pc Ls (.int y :: .int x :: st)) :=
  WP.step (fun _ _ _ P _ k => XS.iushr P.1.here C.exec rfl (hb C.bytes hd) rfl k) r
theorem Ok.lushr (C : Ok l Z a0 EL n0 own h0 ws0 Q code maxL ret nm rm K) {x : Int64} {y : Int32} (hd : decode code pc = .ok (.lushr, 1)) (r : WP l Z EL n0 own h0 ws0 Q K h ws cells slots (mkF K.m (pc + 1) Ls (.long (x.toUInt64 >>> (y &&& 0x3f).toInt64.toUInt64).toInt64 :: st))) : WP l Z EL n0 own h0 ws0 Q K h ws cells slots (mkF K.m pc Ls (.int y :: .long x :: st)) :=
  WP.step (fun _ _ _ P _ k => XS.lushr P.1.here C.exec rfl (hb C.bytes hd) rfl k) r
theorem Ok.idiv (C : Ok l Z a0 EL n0 own h0 ws0 Q code maxL ret nm rm K) {x y : Int32} (hy : y ≠ 0) (hd : decode code pc = .ok (.idiv, 1)) (r : WP l Z EL n0 own h0 ws0 Q K h ws cells slots (mkF K.m (pc + 1) Ls (.int (x / y) :: st))) : WP l Z EL n0 own h0 ws0 Q K h ws cells slots (mkF K.m pc Ls (.int y :: .int x :: st)) :=
  WP.step (fun _ _ _ P _ k => XS.idiv P.1.here C.exec rfl (hb C.bytes hd) rfl hy k) r
theorem Ok.irem (C : Ok l Z a0 EL n0 own h0 ws0 Q code maxL ret nm rm K) {x y : Int32} (hy : y ≠ 0) (hd : decode code pc = .ok (.irem, 1)) (r : WP l Z EL n0 own h0 ws0 Q K h ws cells slots (mkF K.m (pc + 1) Ls (.int (x % y) :: st))) : WP l Z EL n0 own h0 ws0 Q K h ws cells slots (mkF K.m pc Ls (.int y :: .int x :: st)) :=
  WP.step (fun _ _ _ P _ k => iremM P.1 C.exec (g := mkF K.m pc Ls (.int y :: .int x :: st)) rfl (hb C.bytes hd) rfl hy k) r
theorem Ok.ldiv (C : Ok l Z a0 EL n0 own h0 ws0 Q code maxL ret nm rm K) {x y : Int64} (hy : y ≠ 0) (hd : decode code pc = .ok (.ldiv, 1)) (r : WP l Z EL n0 own h0 ws0 Q K h ws cells slots (mkF K.m (pc + 1) Ls (.long (x / y) :: st))) : WP l Z EL n0 own h0 ws0 Q K h ws cells slots (mkF K.m pc Ls (.long y :: .long x :: st)) :=
  WP.step (fun _ _ _ P _ k => XS.ldiv P.1.here C.exec rfl (hb C.bytes hd) rfl hy k) r
theorem Ok.lrem (C : Ok l Z a0 EL n0 own h0 ws0 Q code maxL ret nm rm K) {x y : Int64} (hy : y ≠ 0) (hd : decode code pc = .ok (.lrem, 1)) (r : WP l Z EL n0 own h0 ws0 Q K h ws cells slots (mkF K.m (pc + 1) Ls (.long (x % y) :: st))) : WP l Z EL n0 own h0 ws0 Q K h ws cells slots (mkF K.m pc Ls (.long y :: .long x :: st)) :=
  WP.step (fun _ _ _ P _ k => XS.lrem P.1.here C.exec rfl (hb C.bytes hd) rfl hy (by rw [lrem_mod]; exact k)) r
theorem Ok.lcmp (C : Ok l Z a0 EL n0 own h0 ws0 Q code maxL ret nm rm K) {x y : Int64} (hd : decode code pc = .ok (.lcmp, 1)) (r : WP l Z EL n0 own h0 ws0 Q K h ws cells slots (mkF K.m (pc + 1) Ls (.int (lcmpW x y) :: st))) : WP l Z EL n0 own h0 ws0 Q K h ws cells slots (mkF K.m pc Ls (.long y :: .long x :: st)) :=
  WP.step (fun _ _ _ P _ k => XS.lcmp P.1.here C.exec rfl (hb C.bytes hd) rfl k) r
theorem Ok.dup (C : Ok l Z a0 EL n0 own h0 ws0 Q code maxL ret nm rm K) {x : Value} (hc : x.category = 1) (hd : decode code pc = .ok (.dup, 1)) (r : WP l Z EL n0 own h0 ws0 Q K h ws cells slots (mkF K.m (pc + 1) Ls (x :: x :: st))) : WP l Z EL n0 own h0 ws0 Q K h ws cells slots (mkF K.m pc Ls (x :: st)) :=
  WP.step (fun _ _ _ P _ k => XS.dup P.1.here C.exec rfl (hb C.bytes hd) rfl hc k) r
theorem Ok.pop (C : Ok l Z a0 EL n0 own h0 ws0 Q code maxL ret nm rm K) {x : Value} (hc : x.category = 1) (hd : decode code pc = .ok (.pop, 1)) (r : WP l Z EL n0 own h0 ws0 Q K h ws cells slots (mkF K.m (pc + 1) Ls st)) : WP l Z EL n0 own h0 ws0 Q K h ws cells slots (mkF K.m pc Ls (x :: st)) :=
  WP.step (fun _ _ _ P _ k => XS.pop P.1.here C.exec rfl (hb C.bytes hd) rfl hc k) r
theorem Ok.istoreN (C : Ok l Z a0 EL n0 own h0 ws0 Q code maxL ret nm rm K) {k : Fin 4} {x : Int32} (L' : Array Slot) (hd : decode code pc = .ok (.istore_n k, 1)) (hl : storeLocals Ls k.val (.int x) = some L') (r : WP l Z EL n0 own h0 ws0 Q K h ws cells slots (mkF K.m (pc + 1) L' st)) : WP l Z EL n0 own h0 ws0 Q K h ws cells slots (mkF K.m pc Ls (.int x :: st)) :=
  WP.step (fun _ _ _ P _ k => XS.istoreN P.1.here C.exec rfl (hb C.bytes hd) rfl hl k) r
theorem Ok.istore (C : Ok l Z a0 EL n0 own h0 ws0 Q code maxL ret nm rm K) {k : Nat} {x : Int32} (L' : Array Slot) (hd : decode code pc = .ok (.istore k, 2)) (hl : storeLocals Ls k (.int x) = some L') (r : WP l Z EL n0 own h0 ws0 Q K h ws cells slots (mkF K.m (pc + 2) L' st)) : WP l Z EL n0 own h0 ws0 Q K h ws cells slots (mkF K.m pc Ls (.int x :: st)) :=
  WP.step (fun _ _ _ P _ k => XS.istore P.1.here C.exec rfl (hb C.bytes hd) rfl hl k) r
theorem Ok.astoreN (C : Ok l Z a0 EL n0 own h0 ws0 Q code maxL ret nm rm K) {k : Fin 4} {x : Value} (L' : Array Slot) (hd : decode code pc = .ok (.astore_n k, 1)) (hv : x.isRef = true) (hl : storeLocals Ls k.val x = some L') (r : WP l Z EL n0 own h0 ws0 Q K h ws cells slots (mkF K.m (pc + 1) L' st)) : WP l Z EL n0 own h0 ws0 Q K h ws cells slots (mkF K.m pc Ls (x :: st)) :=
  WP.step (fun _ _ _ P _ k => XS.astoreN P.1.here C.exec rfl (hb C.bytes hd) rfl hv hl k) r
theorem Ok.astore (C : Ok l Z a0 EL n0 own h0 ws0 Q code maxL ret nm rm K) {k : Nat} {x : Value} (L' : Array Slot) (hd : decode code pc = .ok (.astore k, 2)) (hv : x.isRef = true) (hl : storeLocals Ls k x = some L') (r : WP l Z EL n0 own h0 ws0 Q K h ws cells slots (mkF K.m (pc + 2) L' st)) : WP l Z EL n0 own h0 ws0 Q K h ws cells slots (mkF K.m pc Ls (x :: st)) :=
  WP.step (fun _ _ _ P _ k => XS.astore P.1.here C.exec rfl (hb C.bytes hd) rfl hv hl k) r
theorem Ok.lstoreN (C : Ok l Z a0 EL n0 own h0 ws0 Q code maxL ret nm rm K) {k : Fin 4} {x : Int64} (L' : Array Slot) (hd : decode code pc = .ok (.lstore_n k, 1)) (hl : storeLocals Ls k.val (.long x) = some L') (r : WP l Z EL n0 own h0 ws0 Q K h ws cells slots (mkF K.m (pc + 1) L' st)) : WP l Z EL n0 own h0 ws0 Q K h ws cells slots (mkF K.m pc Ls (.long x :: st)) :=
  WP.step (fun _ _ _ P _ k => XS.lstoreN P.1.here C.exec rfl (hb C.bytes hd) rfl hl k) r
theorem Ok.lstore (C : Ok l Z a0 EL n0 own h0 ws0 Q code maxL ret nm rm K) {k : Nat} {x : Int64} (L' : Array Slot) (hd : decode code pc = .ok (.lstore k, 2)) (hl : storeLocals Ls k (.long x) = some L') (r : WP l Z EL n0 own h0 ws0 Q K h ws cells slots (mkF K.m (pc + 2) L' st)) : WP l Z EL n0 own h0 ws0 Q K h ws cells slots (mkF K.m pc Ls (.long x :: st)) :=
  WP.step (fun _ _ _ P _ k => XS.lstore P.1.here C.exec rfl (hb C.bytes hd) rfl hl k) r
theorem Ok.iinc (C : Ok l Z a0 EL n0 own h0 ws0 Q code maxL ret nm rm K) {k : Nat} {cst : Int} {x z : Int32} (L' : Array Slot) (hd : decode code pc = .ok (.iinc k cst, 3)) (hl : Ls[k]? = some (.val (.int x))) (hz : Int32.ofInt cst = z) (hl' : storeLocals Ls k (.int (x + z)) = some L') (r : WP l Z EL n0 own h0 ws0 Q K h ws cells slots (mkF K.m (pc + 3) L' st)) : WP l Z EL n0 own h0 ws0 Q K h ws cells slots (mkF K.m pc Ls st) := by
  subst hz; exact WP.step (fun _ _ _ P _ k => XS.iinc P.1.here C.exec rfl (hb C.bytes hd) hl hl' k) r
theorem Ok.goto (C : Ok l Z a0 EL n0 own h0 ws0 Q code maxL ret nm rm K) {o : Int} (pc' : Nat) (hd : decode code pc = .ok (.goto o, 3)) (ho : 0 ≤ (pc : Int) + o) (hp : ((pc : Int) + o).toNat = pc') (r : WP l Z EL n0 own h0 ws0 Q K h ws cells slots (mkF K.m pc' Ls st)) : WP l Z EL n0 own h0 ws0 Q K h ws cells slots (mkF K.m pc Ls st) :=
  WP.step (fun _ _ _ P _ k => XS.goto P.1.here C.exec rfl rfl (hb C.bytes hd) ho hp k) r
/-! branches -/
theorem Ok.icmp (C : Ok l Z a0 EL n0 own h0 ws0 Q code maxL ret nm rm K) {cd : ClassFile.Cond} {x y : Int32} {o : Int} (pc' : Nat) (hd : decode code pc = .ok (.if_icmp cd o, 3)) (ho : 0 ≤ (pc : Int) + o) (hp : ((pc : Int) + o).toNat = pc') (t : if_icmp.holds cd x y = true → WP l Z EL n0 own h0 ws0 Q K h ws cells slots (mkF K.m pc' Ls st)) (f : if_icmp.holds cd x y = false → WP l Z EL n0 own h0 ws0 Q K h ws cells slots (mkF K.m (pc + 3) Ls st)) : WP l Z EL n0 own h0 ws0 Q K h ws cells slots (mkF K.m pc Ls (.int y :: .int x :: st)) := by
  cases q : if_icmp.holds cd x y
  · exact WP.step (fun _ _ _ P _ k => XS.icmpNo P.1.here C.exec rfl (hb C.bytes hd) rfl q k) (f q)
  · exact WP.step (fun _ _ _ P _ k => XS.icmpYes P.1.here C.exec rfl rfl (hb C.bytes hd) rfl q ho hp k) (t q)
theorem Ok.ifc (C : Ok l Z a0 EL n0 own h0 ws0 Q code maxL ret nm rm K) {cd : ClassFile.Cond} {x : Int32} {o : Int} (pc' : Nat) (hd : decode code pc = .ok (.ifCond cd o, 3)) (ho : 0 ≤ (pc : Int) + o) (hp : ((pc : Int) + o).toNat = pc') (t : if_icmp.holds cd x 0 = true → WP l Z EL n0 own h0 ws0 Q K h ws cells slots (mkF K.m pc' Ls st)) (f : if_icmp.holds cd x 0 = false → WP l Z EL n0 own h0 ws0 Q K h ws cells slots (mkF K.m (pc + 3) Ls st)) : WP l Z EL n0 own h0 ws0 Q K h ws cells slots (mkF K.m pc Ls (.int x :: st)) := by
  cases q : if_icmp.holds cd x 0
  · exact WP.step (fun _ _ _ P _ k => XS.ifNo P.1.here C.exec rfl (hb C.bytes hd) rfl (by rw [if0]; exact q) k) (f q)
  · exact WP.step (fun _ _ _ P _ k => XS.ifYes P.1.here C.exec rfl rfl (hb C.bytes hd) rfl (by rw [if0]; exact q) ho hp k) (t q)
theorem hEq (x y : Int32) : (if_icmp.holds .eq x y = true ↔ x.toInt = y.toInt) ∧ (if_icmp.holds .eq x y = false ↔ x.toInt ≠ y.toInt) := by simp [if_icmp.holds, Int32.toInt_inj]
theorem hNe (x y : Int32) : (if_icmp.holds .ne x y = true ↔ x.toInt ≠ y.toInt) ∧ (if_icmp.holds .ne x y = false ↔ x.toInt = y.toInt) := by simp [if_icmp.holds, Int32.toInt_inj]
theorem hLt (x y : Int32) : (if_icmp.holds .lt x y = true ↔ x.toInt < y.toInt) ∧ (if_icmp.holds .lt x y = false ↔ y.toInt ≤ x.toInt) := by simp [if_icmp.holds, Int32.lt_iff_toInt_lt, Int32.le_iff_toInt_le]
theorem hGe (x y : Int32) : (if_icmp.holds .ge x y = true ↔ y.toInt ≤ x.toInt) ∧ (if_icmp.holds .ge x y = false ↔ x.toInt < y.toInt) := by simp [if_icmp.holds, Int32.lt_iff_toInt_lt, Int32.le_iff_toInt_le]
theorem hGt (x y : Int32) : (if_icmp.holds .gt x y = true ↔ y.toInt < x.toInt) ∧ (if_icmp.holds .gt x y = false ↔ x.toInt ≤ y.toInt) := by simp [if_icmp.holds, Int32.lt_iff_toInt_lt, Int32.le_iff_toInt_le]
theorem hLe (x y : Int32) : (if_icmp.holds .le x y = true ↔ x.toInt ≤ y.toInt) ∧ (if_icmp.holds .le x y = false ↔ y.toInt < x.toInt) := by simp [if_icmp.holds, Int32.lt_iff_toInt_lt, Int32.le_iff_toInt_le]
theorem Ok.icmp_eq (C : Ok l Z a0 EL n0 own h0 ws0 Q code maxL ret nm rm K) {x y : Int32} {o : Int} (pc' : Nat) (hd : decode code pc = .ok (.if_icmp .eq o, 3)) (ho : 0 ≤ (pc : Int) + o) (hp : ((pc : Int) + o).toNat = pc') (t : x.toInt = y.toInt → WP l Z EL n0 own h0 ws0 Q K h ws cells slots (mkF K.m pc' Ls st)) (f : x.toInt ≠ y.toInt → WP l Z EL n0 own h0 ws0 Q K h ws cells slots (mkF K.m (pc + 3) Ls st)) : WP l Z EL n0 own h0 ws0 Q K h ws cells slots (mkF K.m pc Ls (.int y :: .int x :: st)) :=
  C.icmp pc' hd ho hp (fun q => t ((hEq x y).1.mp q)) (fun q => f ((hEq x y).2.mp q))
theorem Ok.ifc_eq (C : Ok l Z a0 EL n0 own h0 ws0 Q code maxL ret nm rm K) {x : Int32} {o : Int} (pc' : Nat) (hd : decode code pc = .ok (.ifCond .eq o, 3)) (ho : 0 ≤ (pc : Int) + o) (hp : ((pc : Int) + o).toNat = pc') (t : x.toInt = 0 → WP l Z EL n0 own h0 ws0 Q K h ws cells slots (mkF K.m pc' Ls st)) (f : x.toInt ≠ 0 → WP l Z EL n0 own h0 ws0 Q K h ws cells slots (mkF K.m (pc + 3) Ls st)) : WP l Z EL n0 own h0 ws0 Q K h ws cells slots (mkF K.m pc Ls (.int x :: st)) :=
  C.ifc pc' hd ho hp (fun q => t ((hEq x 0).1.mp q)) (fun q => f ((hEq x 0).2.mp q))
theorem Ok.icmp_ne (C : Ok l Z a0 EL n0 own h0 ws0 Q code maxL ret nm rm K) {x y : Int32} {o : Int} (pc' : Nat) (hd : decode code pc = .ok (.if_icmp .ne o, 3)) (ho : 0 ≤ (pc : Int) + o) (hp : ((pc : Int) + o).toNat = pc') (t : x.toInt ≠ y.toInt → WP l Z EL n0 own h0 ws0 Q K h ws cells slots (mkF K.m pc' Ls st)) (f : x.toInt = y.toInt → WP l Z EL n0 own h0 ws0 Q K h ws cells slots (mkF K.m (pc + 3) Ls st)) : WP l Z EL n0 own h0 ws0 Q K h ws cells slots (mkF K.m pc Ls (.int y :: .int x :: st)) :=
  C.icmp pc' hd ho hp (fun q => t ((hNe x y).1.mp q)) (fun q => f ((hNe x y).2.mp q))
theorem Ok.ifc_ne (C : Ok l Z a0 EL n0 own h0 ws0 Q code maxL ret nm rm K) {x : Int32} {o : Int} (pc' : Nat) (hd : decode code pc = .ok (.ifCond .ne o, 3)) (ho : 0 ≤ (pc : Int) + o) (hp : ((pc : Int) + o).toNat = pc') (t : x.toInt ≠ 0 → WP l Z EL n0 own h0 ws0 Q K h ws cells slots (mkF K.m pc' Ls st)) (f : x.toInt = 0 → WP l Z EL n0 own h0 ws0 Q K h ws cells slots (mkF K.m (pc + 3) Ls st)) : WP l Z EL n0 own h0 ws0 Q K h ws cells slots (mkF K.m pc Ls (.int x :: st)) :=
  C.ifc pc' hd ho hp (fun q => t ((hNe x 0).1.mp q)) (fun q => f ((hNe x 0).2.mp q))
theorem Ok.icmp_lt (C : Ok l Z a0 EL n0 own h0 ws0 Q code maxL ret nm rm K) {x y : Int32} {o : Int} (pc' : Nat) (hd : decode code pc = .ok (.if_icmp .lt o, 3)) (ho : 0 ≤ (pc : Int) + o) (hp : ((pc : Int) + o).toNat = pc') (t : x.toInt < y.toInt → WP l Z EL n0 own h0 ws0 Q K h ws cells slots (mkF K.m pc' Ls st)) (f : y.toInt ≤ x.toInt → WP l Z EL n0 own h0 ws0 Q K h ws cells slots (mkF K.m (pc + 3) Ls st)) : WP l Z EL n0 own h0 ws0 Q K h ws cells slots (mkF K.m pc Ls (.int y :: .int x :: st)) :=
  C.icmp pc' hd ho hp (fun q => t ((hLt x y).1.mp q)) (fun q => f ((hLt x y).2.mp q))
theorem Ok.ifc_lt (C : Ok l Z a0 EL n0 own h0 ws0 Q code maxL ret nm rm K) {x : Int32} {o : Int} (pc' : Nat) (hd : decode code pc = .ok (.ifCond .lt o, 3)) (ho : 0 ≤ (pc : Int) + o) (hp : ((pc : Int) + o).toNat = pc') (t : x.toInt < 0 → WP l Z EL n0 own h0 ws0 Q K h ws cells slots (mkF K.m pc' Ls st)) (f : 0 ≤ x.toInt → WP l Z EL n0 own h0 ws0 Q K h ws cells slots (mkF K.m (pc + 3) Ls st)) : WP l Z EL n0 own h0 ws0 Q K h ws cells slots (mkF K.m pc Ls (.int x :: st)) :=
  C.ifc pc' hd ho hp (fun q => t ((hLt x 0).1.mp q)) (fun q => f ((hLt x 0).2.mp q))
theorem Ok.icmp_ge (C : Ok l Z a0 EL n0 own h0 ws0 Q code maxL ret nm rm K) {x y : Int32} {o : Int} (pc' : Nat) (hd : decode code pc = .ok (.if_icmp .ge o, 3)) (ho : 0 ≤ (pc : Int) + o) (hp : ((pc : Int) + o).toNat = pc') (t : y.toInt ≤ x.toInt → WP l Z EL n0 own h0 ws0 Q K h ws cells slots (mkF K.m pc' Ls st)) (f : x.toInt < y.toInt → WP l Z EL n0 own h0 ws0 Q K h ws cells slots (mkF K.m (pc + 3) Ls st)) : WP l Z EL n0 own h0 ws0 Q K h ws cells slots (mkF K.m pc Ls (.int y :: .int x :: st)) :=
  C.icmp pc' hd ho hp (fun q => t ((hGe x y).1.mp q)) (fun q => f ((hGe x y).2.mp q))
theorem Ok.ifc_ge (C : Ok l Z a0 EL n0 own h0 ws0 Q code maxL ret nm rm K) {x : Int32} {o : Int} (pc' : Nat) (hd : decode code pc = .ok (.ifCond .ge o, 3)) (ho : 0 ≤ (pc : Int) + o) (hp : ((pc : Int) + o).toNat = pc') (t : 0 ≤ x.toInt → WP l Z EL n0 own h0 ws0 Q K h ws cells slots (mkF K.m pc' Ls st)) (f : x.toInt < 0 → WP l Z EL n0 own h0 ws0 Q K h ws cells slots (mkF K.m (pc + 3) Ls st)) : WP l Z EL n0 own h0 ws0 Q K h ws cells slots (mkF K.m pc Ls (.int x :: st)) :=
  C.ifc pc' hd ho hp (fun q => t ((hGe x 0).1.mp q)) (fun q => f ((hGe x 0).2.mp q))
theorem Ok.icmp_gt (C : Ok l Z a0 EL n0 own h0 ws0 Q code maxL ret nm rm K) {x y : Int32} {o : Int} (pc' : Nat) (hd : decode code pc = .ok (.if_icmp .gt o, 3)) (ho : 0 ≤ (pc : Int) + o) (hp : ((pc : Int) + o).toNat = pc') (t : y.toInt < x.toInt → WP l Z EL n0 own h0 ws0 Q K h ws cells slots (mkF K.m pc' Ls st)) (f : x.toInt ≤ y.toInt → WP l Z EL n0 own h0 ws0 Q K h ws cells slots (mkF K.m (pc + 3) Ls st)) : WP l Z EL n0 own h0 ws0 Q K h ws cells slots (mkF K.m pc Ls (.int y :: .int x :: st)) :=
  C.icmp pc' hd ho hp (fun q => t ((hGt x y).1.mp q)) (fun q => f ((hGt x y).2.mp q))
theorem Ok.ifc_gt (C : Ok l Z a0 EL n0 own h0 ws0 Q code maxL ret nm rm K) {x : Int32} {o : Int} (pc' : Nat) (hd : decode code pc = .ok (.ifCond .gt o, 3)) (ho : 0 ≤ (pc : Int) + o) (hp : ((pc : Int) + o).toNat = pc') (t : 0 < x.toInt → WP l Z EL n0 own h0 ws0 Q K h ws cells slots (mkF K.m pc' Ls st)) (f : x.toInt ≤ 0 → WP l Z EL n0 own h0 ws0 Q K h ws cells slots (mkF K.m (pc + 3) Ls st)) : WP l Z EL n0 own h0 ws0 Q K h ws cells slots (mkF K.m pc Ls (.int x :: st)) :=
  C.ifc pc' hd ho hp (fun q => t ((hGt x 0).1.mp q)) (fun q => f ((hGt x 0).2.mp q))
theorem Ok.icmp_le (C : Ok l Z a0 EL n0 own h0 ws0 Q code maxL ret nm rm K) {x y : Int32} {o : Int} (pc' : Nat) (hd : decode code pc = .ok (.if_icmp .le o, 3)) (ho : 0 ≤ (pc : Int) + o) (hp : ((pc : Int) + o).toNat = pc') (t : x.toInt ≤ y.toInt → WP l Z EL n0 own h0 ws0 Q K h ws cells slots (mkF K.m pc' Ls st)) (f : y.toInt < x.toInt → WP l Z EL n0 own h0 ws0 Q K h ws cells slots (mkF K.m (pc + 3) Ls st)) : WP l Z EL n0 own h0 ws0 Q K h ws cells slots (mkF K.m pc Ls (.int y :: .int x :: st)) :=
  C.icmp pc' hd ho hp (fun q => t ((hLe x y).1.mp q)) (fun q => f ((hLe x y).2.mp q))
theorem Ok.ifc_le (C : Ok l Z a0 EL n0 own h0 ws0 Q code maxL ret nm rm K) {x : Int32} {o : Int} (pc' : Nat) (hd : decode code pc = .ok (.ifCond .le o, 3)) (ho : 0 ≤ (pc : Int) + o) (hp : ((pc : Int) + o).toNat = pc') (t : x.toInt ≤ 0 → WP l Z EL n0 own h0 ws0 Q K h ws cells slots (mkF K.m pc' Ls st)) (f : 0 < x.toInt → WP l Z EL n0 own h0 ws0 Q K h ws cells slots (mkF K.m (pc + 3) Ls st)) : WP l Z EL n0 own h0 ws0 Q K h ws cells slots (mkF K.m pc Ls (.int x :: st)) :=
  C.ifc pc' hd ho hp (fun q => t ((hLe x 0).1.mp q)) (fun q => f ((hLe x 0).2.mp q))
theorem Ok.ifnullY (C : Ok l Z a0 EL n0 own h0 ws0 Q code maxL ret nm rm K) {o : Int} (pc' : Nat) (hd : decode code pc = .ok (.ifnull o, 3)) (ho : 0 ≤ (pc : Int) + o) (hp : ((pc : Int) + o).toNat = pc') (r : WP l Z EL n0 own h0 ws0 Q K h ws cells slots (mkF K.m pc' Ls st)) : WP l Z EL n0 own h0 ws0 Q K h ws cells slots (mkF K.m pc Ls (.null :: st)) :=
  WP.step (fun _ _ _ P _ k => XS.ifnullYes P.1.here C.exec rfl rfl (hb C.bytes hd) rfl ho hp k) r
theorem Ok.ifnullN (C : Ok l Z a0 EL n0 own h0 ws0 Q code maxL ret nm rm K) {o : Int} {b : Nat} (hd : decode code pc = .ok (.ifnull o, 3)) (r : WP l Z EL n0 own h0 ws0 Q K h ws cells slots (mkF K.m (pc + 3) Ls st)) : WP l Z EL n0 own h0 ws0 Q K h ws cells slots (mkF K.m pc Ls (.ref b :: st)) :=
  WP.step (fun _ _ _ P _ k => XS.ifnullNo P.1.here C.exec rfl (hb C.bytes hd) rfl k) r
theorem Ok.ifnonnullY (C : Ok l Z a0 EL n0 own h0 ws0 Q code maxL ret nm rm K) {o : Int} {b : Nat} (pc' : Nat) (hd : decode code pc = .ok (.ifnonnull o, 3)) (ho : 0 ≤ (pc : Int) + o) (hp : ((pc : Int) + o).toNat = pc') (r : WP l Z EL n0 own h0 ws0 Q K h ws cells slots (mkF K.m pc' Ls st)) : WP l Z EL n0 own h0 ws0 Q K h ws cells slots (mkF K.m pc Ls (.ref b :: st)) :=
  WP.step (fun _ _ _ P _ k => XS.ifnonnullYes P.1.here C.exec rfl rfl (hb C.bytes hd) rfl ho hp k) r
theorem Ok.ifnonnullN (C : Ok l Z a0 EL n0 own h0 ws0 Q code maxL ret nm rm K) {o : Int} (hd : decode code pc = .ok (.ifnonnull o, 3)) (r : WP l Z EL n0 own h0 ws0 Q K h ws cells slots (mkF K.m (pc + 3) Ls st)) : WP l Z EL n0 own h0 ws0 Q K h ws cells slots (mkF K.m pc Ls (.null :: st)) :=
  WP.step (fun _ _ _ P _ k => XS.ifnonnullNo P.1.here C.exec rfl (hb C.bytes hd) rfl k) r
theorem Ok.acmp (C : Ok l Z a0 EL n0 own h0 ws0 Q code maxL ret nm rm K) {cd : ACond} {x y : Value} {o : Int} (pc' : Nat) (same : Bool) (hd : decode code pc = .ok (.if_acmp cd o, 3)) (h1 : x.isRef = true) (h2 : y.isRef = true) (hq : decide (x = y) = same) (ho : 0 ≤ (pc : Int) + o) (hp : pc' = if acV cd same = true then ((pc : Int) + o).toNat else pc + 3) (r : WP l Z EL n0 own h0 ws0 Q K h ws cells slots (mkF K.m pc' Ls st)) : WP l Z EL n0 own h0 ws0 Q K h ws cells slots (mkF K.m pc Ls (y :: x :: st)) :=
  WP.step (fun _ _ _ P _ k => RoadKit.acmp P.1 C.exec (g := mkF K.m pc Ls (y :: x :: st)) rfl h1 h2 rfl (hb C.bytes hd) rfl hq ho hp k) r
theorem Ok.tswIn (C : Ok l Z a0 EL n0 own h0 ws0 Q code maxL ret nm rm K) {dflt low high : Int} {offs : Array Int} {len : Nat} {o : Int} {i : Int32} (pc' : Nat) (hd : decode code pc = .ok (.tableswitch dflt low high offs, len)) (hin : ¬ (i.toInt < low ∨ i.toInt > high)) (hoff : offs[(i.toInt - low).toNat]? = some o) (ho : 0 ≤ (pc : Int) + o) (hp : ((pc : Int) + o).toNat = pc') (r : WP l Z EL n0 own h0 ws0 Q K h ws cells slots (mkF K.m pc' Ls st)) : WP l Z EL n0 own h0 ws0 Q K h ws cells slots (mkF K.m pc Ls (.int i :: st)) :=
  WP.step (fun _ _ _ P _ k => XS.tswIn P.1.here C.exec rfl rfl (hb C.bytes hd) rfl hin hoff ho hp k) r
theorem Ok.tswOut (C : Ok l Z a0 EL n0 own h0 ws0 Q code maxL ret nm rm K) {dflt low high : Int} {offs : Array Int} {len : Nat} {i : Int32} (pc' : Nat) (hd : decode code pc = .ok (.tableswitch dflt low high offs, len)) (hout : i.toInt < low ∨ i.toInt > high) (ho : 0 ≤ (pc : Int) + dflt) (hp : ((pc : Int) + dflt).toNat = pc') (r : WP l Z EL n0 own h0 ws0 Q K h ws cells slots (mkF K.m pc' Ls st)) : WP l Z EL n0 own h0 ws0 Q K h ws cells slots (mkF K.m pc Ls (.int i :: st)) :=
  WP.step (fun _ _ _ P _ k => XS.tswOut P.1.here C.exec rfl rfl (hb C.bytes hd) rfl hout ho hp k) r
/-! the heap -/
theorem Ok.getF (C : Ok l Z a0 EL n0 own h0 ws0 Q code maxL ret nm rm K) {R0 O n d host : String} {index : Nat} {a : Nat} {v : Value} (w : (Jvm.Cond.fieldLink own index R0 n d).before a0 Z = true ∨ (Jvm.Cond.fieldLinkNest own index R0 n d host).before a0 Z = true) (via : Via Z R0 O n d) (F : Fld Z h a O n d v) (hd : decode code pc = .ok (.getfield index, 3))
    (r : WP l Z EL n0 own h0 ws0 Q K h ws cells slots (mkF K.m (pc + 3) Ls (v :: st))) : WP l Z EL n0 own h0 ws0 Q K h ws cells slots (mkF K.m pc Ls (.ref a :: st)) := by
  intro vm T locs P
  obtain ⟨T', X', e', s'⟩ := RoadKit.getF P.1 C.exec P.2.2.2.1 P.2.2.2.2.1 w via P.2.1 F (g := mkF K.m pc Ls (.ref a :: st)) rfl rfl (hb C.bytes hd)
  exact Goes.of s' (r vm T' locs ⟨X', e', P.2.2⟩)
theorem Ok.getS (C : Ok l Z a0 EL n0 own h0 ws0 Q code maxL ret nm rm K) {R0 O n d : String} {index : Nat} {v : Value} (w : (Jvm.Cond.fieldLink own index R0 n d).before a0 Z = true) (via : Via Z R0 O n d) (F : Sta Z Z.heap O n d v) (hd : decode code pc = .ok (.getstatic index, 3))
    (r : WP l Z EL n0 own h0 ws0 Q K h ws cells slots (mkF K.m (pc + 3) Ls (v :: st))) : WP l Z EL n0 own h0 ws0 Q K h ws cells slots (mkF K.m pc Ls st) := by
  intro vm T locs P
  obtain ⟨T', X', e', s'⟩ := RoadKit.getS (host := "") P.1 C.exec P.2.2.2.1 P.2.2.2.2.1 w via P.2.1 (F.ext P.2.2.2.2.2.2.2.2.1.2) (g := mkF K.m pc Ls st) rfl (hb C.bytes hd)
  exact Goes.of s' (r vm T' locs ⟨X', e', P.2.2⟩)
theorem Ok.castY (C : Ok l Z a0 EL n0 own h0 ws0 Q code maxL ret nm rm K) {J : String} {index : Nat} {a : Nat} (w : (Jvm.Cond.classLink own index J).before a0 Z = true) (F : Ins Z h a J true) (hd : decode code pc = .ok (.checkcast index, 3))
    (r : WP l Z EL n0 own h0 ws0 Q K h ws cells slots (mkF K.m (pc + 3) Ls (.ref a :: st))) : WP l Z EL n0 own h0 ws0 Q K h ws cells slots (mkF K.m pc Ls (.ref a :: st)) := by
  intro vm T locs P
  obtain ⟨T', X', e', s'⟩ := RoadKit.castY P.1 C.exec P.2.2.2.1 P.2.2.2.2.1 w P.2.1 F (g := mkF K.m pc Ls (.ref a :: st)) rfl rfl (hb C.bytes hd)
  exact Goes.of s' (r vm T' locs ⟨X', e', P.2.2⟩)
theorem Ok.instY (C : Ok l Z a0 EL n0 own h0 ws0 Q code maxL ret nm rm K) {J : String} {index : Nat} {a : Nat} (w : (Jvm.Cond.classLink own index J).before a0 Z = true) (F : Ins Z h a J true) (hd : decode code pc = .ok (.instanceof index, 3))
    (r : WP l Z EL n0 own h0 ws0 Q K h ws cells slots (mkF K.m (pc + 3) Ls (.int 1 :: st))) : WP l Z EL n0 own h0 ws0 Q K h ws cells slots (mkF K.m pc Ls (.ref a :: st)) := by
  intro vm T locs P
  obtain ⟨T', X', e', s'⟩ := RoadKit.instY P.1 C.exec P.2.2.2.1 P.2.2.2.2.1 w P.2.1 F (g := mkF K.m pc Ls (.ref a :: st)) rfl rfl (hb C.bytes hd)
  exact Goes.of s' (r vm T' locs ⟨X', e', P.2.2⟩)
theorem keep_ext {h h' : Heap} (E : Ext h h') : Keep h h' [] := (Keep.refl h []).ext E
theorem Ok.new (C : Ok l Z a0 EL n0 own h0 ws0 Q code maxL ret nm rm K) {J : String} {index n : Nat} (w : (Jvm.Cond.classLink own index J).before a0 Z = true) (wi : (Jvm.Cond.instantiable J n).before a0 Z = true) (wz : (Jvm.Cond.initialized J).before a0 Z = true) (hd : decode code pc = .ok (.new index, 3)) (hc : cells + 1 ≤ rm.cells) (hl : slots + n ≤ rm.slots)
    (r : ∀ (h' : Heap) (a : Nat), @Eq Nat a h.size → h.size < h'.size → n0 ≤ a → Keep h h' [] → Exa Z h' a J → (∀ {O nm d : String} {ty : FieldType}, RoadKit.Laid Z a0 J O nm d → parseFieldDescriptor d = some ty → Fld Z h' a O nm d (defaultValue ty)) → WP l Z EL n0 own h0 ws0 Q K h' (a :: ws) (cells + 1) (slots + n) (mkF K.m (pc + 3) Ls (.ref a :: st))) :
    WP l Z EL n0 own h0 ws0 Q K h ws cells slots (mkF K.m pc Ls st) := by
  intro vm T locs P
  obtain ⟨T', h', X', e', E, A, D, -, s'⟩ := newO P.1 C.exec P.2.2.2.1 P.2.2.2.2.1 w wi wz P.2.1 (g := mkF K.m pc Ls st) rfl (hb C.bytes hd) (by rw [C.room]; exact hc) (by rw [C.room]; exact hl)
  exact Goes.of s' (r h' h.size rfl A.lt (P.2.2.2.2.2.2.2.2.1.1 ▸ P.2.2.2.2.2.2.2.2.1.2.1) (keep_ext E) A D vm T' locs (P.new X' e' E A.lt))
theorem Ok.putF (C : Ok l Z a0 EL n0 own h0 ws0 Q code maxL ret nm rm K) {R0 O n d host J : String} {index kk : Nat} {ty : FieldType} {a : Nat} {v old : Value} (w : (Jvm.Cond.fieldLink own index R0 n d).before a0 Z = true ∨ (Jvm.Cond.fieldLinkNest own index R0 n d host).before a0 Z = true) (via : Via Z R0 O n d) (F : Fld Z h a O n d old) (E : Exa Z h a J)
    (L : (Jvm.Cond.lays J O n d).before a0 Z = true ∨ ((Jvm.Cond.laysFinal J O n d).before a0 Z = true ∧ own = O ∧ nm = "<init>")) (wi : (Jvm.Cond.instantiable J kk).before a0 Z = true) (hty : parseFieldDescriptor d = some ty) (hn : narrow ty v = v) (hf : fits ty v = true) (hd : decode code pc = .ok (.putfield index, 3)) (ha : a ∈ ws)
    (r : ∀ h' : Heap, h'.size = h.size → Keep h h' [a] → Exa Z h' a J → Fld Z h' a O n d v → (∀ {O' n' d' : String} {u : Value}, RoadKit.slotOf Z O' n' d' ≠ RoadKit.slotOf Z O n d → Fld Z h a O' n' d' u → Fld Z h' a O' n' d' u) → WP l Z EL n0 own h0 ws0 Q K h' ws cells slots (mkF K.m (pc + 3) Ls st)) :
    WP l Z EL n0 own h0 ws0 Q K h ws cells slots (mkF K.m pc Ls (v :: .ref a :: st)) := by
  intro vm T locs P
  obtain ⟨T', h', X', e', W, s'⟩ := RoadKit.putF P.1 C.exec P.2.2.2.1 P.2.2.2.2.1 w via P.2.1 F E (L.imp id fun q => ⟨q.1, q.2.1, C.named.trans q.2.2⟩) wi hty hn hf (g := mkF K.m pc Ls (v :: .ref a :: st)) rfl rfl (hb C.bytes hd)
  exact Goes.of s' (r h' W.size (Keep.of_wr W) (E.wr W) (F.same W) (fun q G => G.other W (Or.inr q)) vm T' _ (P.wr ha X' e' W))
/-- an array and all that it holds -/
def Ary (Z : State) (h : Heap) (a : Nat) (ty : FieldType) (vs : List Value) : Prop := ∃ c : Cell, RoadKit.Arr Z h a c ty ∧ c.slots.toList = vs ∧ vs.length < 2 ^ 31 ∧ ∀ v ∈ vs, fits ty v = true
theorem Ary.lt {a : Nat} {ty : FieldType} {vs : List Value} (A : Ary Z h a ty vs) : a < h.size := by obtain ⟨c, A, -⟩ := A; exact A.lt
theorem Ary.keep {h' : Heap} {a : Nat} {ty : FieldType} {vs : List Value} {us : List Addr} (A : Ary Z h a ty vs) (Kp : Keep h h' us) (q : a ∉ us) : Ary Z h' a ty vs := by
  obtain ⟨c, A, r⟩ := A; exact ⟨c, ⟨Kp.2.1 a c A.1 q, A.2⟩, r⟩
theorem Ary.len {a : Nat} {ty : FieldType} {vs : List Value} (A : Ary Z h a ty vs) : vs.length < 2 ^ 31 := by obtain ⟨c, -, -, r, -⟩ := A; exact r
theorem Ary.arv {a : Nat} {ty : FieldType} {vs : List Value} {n : Int32} {d : Value} (A : Ary Z h a ty vs) (hn : n.toInt = vs.length) : ∃ k, Arv Z h a k ty n vs d := by
  obtain ⟨c, A, r, q, f⟩ := A
  subst r
  have hz : c.slots.size = n.toNatClampNeg := by
    rw [← Int32.toNat_toInt, hn]; simp
  refine ⟨c.cls, c, A, rfl, hz, fun w => ?_, fun k hk => ?_, fun i hi => ?_⟩
  · rw [Int32.lt_iff_toInt_lt, hn] at w
    have : (0 : Int32).toInt = 0 := rfl
    omega
  · simp [hk]
  · have : c.slots.toList.getD i d = c.slots[i] := by simp [hi]
    rw [this]
    exact f _ (by simp)
theorem Ary.of_arv {a : Nat} {ty : FieldType} {vs : List Value} {n : Int32} {d : Value} {k : ClassId} (A : Arv Z h a k ty n vs d) (hn : n.toNatClampNeg = vs.length) : Ary Z h a ty vs := by
  obtain ⟨c, A, -, r2, r3, H, G⟩ := A
  have e : c.slots.toList = vs := by
    apply List.ext_getElem?
    intro i
    by_cases hi : i < c.slots.size
    · have q := H i hi
      rw [Array.getElem?_toList, q]
      have hi' : i < vs.length := by omega
      simp [hi']
    · rw [List.getElem?_eq_none (by simpa using hi), List.getElem?_eq_none (by omega)]
  refine ⟨c, A, e, ?_, fun v hv => ?_⟩
  · rw [← hn, ← Int32.toNat_toInt]
    have := n.toInt_lt
    omega
  · obtain ⟨i, hi, rfl⟩ := List.getElem_of_mem hv
    have := G i (by omega)
    simpa [hi] using this
theorem Ok.newarr (C : Ok l Z a0 EL n0 own h0 ws0 Q code maxL ret nm rm K) {aty : ArrayType} {n : Int32} (k cap : Nat) (w : (Jvm.Cond.arrayClass (newarray.typeOf aty)).before a0 Z = true) (hd : decode code pc = .ok (.newarray aty, 2)) (hn : n.toInt = k) (hk' : k ≤ cap) (hb' : cap * 8 ≤ 536870912) (hc : cells + 1 ≤ rm.cells) (hl : slots + cap ≤ rm.slots)
    (r : ∀ (h' : Heap) (a : Nat), @Eq Nat a h.size → h.size < h'.size → n0 ≤ a → Keep h h' [] → Ary Z h' a (newarray.typeOf aty) (List.replicate k (defaultValue (newarray.typeOf aty))) → WP l Z EL n0 own h0 ws0 Q K h' (a :: ws) (cells + 1) (slots + cap) (mkF K.m (pc + 2) Ls (.ref a :: st))) :
    WP l Z EL n0 own h0 ws0 Q K h ws cells slots (mkF K.m pc Ls (.int n :: st)) := by
  intro vm T locs P
  have hk : n.toNatClampNeg = k := by rw [← Int32.toNat_toInt, hn]; simp
  obtain ⟨T', h', cA, X', e', E, A, s'⟩ := newP P.1 C.exec P.2.2.2.1 w P.2.1 (g := mkF K.m pc Ls (.int n :: st)) rfl (hb C.bytes hd) rfl (fun q => by rw [Int32.lt_iff_toInt_lt, hn] at q; have : (0 : Int32).toInt = 0 := rfl; omega) (cap := cap) (hk ▸ hk') hb' (by rw [C.room]; exact hc) (by rw [C.room]; exact hl)
  refine Goes.of s' (r h' h.size rfl A.lt (P.2.2.2.2.2.2.2.2.1.1 ▸ P.2.2.2.2.2.2.2.2.1.2.1) (keep_ext E) ⟨_, A, by simp [newA, hk], ?_, fun v hv => ?_⟩ vm T' locs (P.new X' e' E A.lt))
  · simp; omega
  · obtain ⟨-, rfl⟩ := List.mem_replicate.mp hv
    cases aty <;> rfl
theorem Ok.alen (C : Ok l Z a0 EL n0 own h0 ws0 Q code maxL ret nm rm K) {a : Nat} {ty : FieldType} {vs : List Value} {n : Int32} (A : Ary Z h a ty vs) (hn : n.toInt = vs.length) (hd : decode code pc = .ok (.arraylength, 1)) (r : WP l Z EL n0 own h0 ws0 Q K h ws cells slots (mkF K.m (pc + 1) Ls (.int n :: st))) : WP l Z EL n0 own h0 ws0 Q K h ws cells slots (mkF K.m pc Ls (.ref a :: st)) := by
  intro vm T locs P
  obtain ⟨c, A, q, hl, -⟩ := A
  refine Goes.of (fun t k => P.1.arraylength C.exec (by rw [P.2.1]; exact A.1) (State.isArrayOf_alike P.2.2.2.1.alike A.2.1) (g := mkF K.m pc Ls (.ref a :: st)) rfl rfl (hb C.bytes hd) t ?_) (r vm T locs P)
  have e : c.slots.size.toInt32 = n := by
    apply Int32.toInt_inj.mp
    rw [hn, ← q]
    have : c.slots.size < 2 ^ 31 := by rw [← q] at hl; simpa using hl
    simpa using RoadKit.len_toInt this
  rw [e]; exact k
theorem idx_ok {j : Int32} {i n : Nat} (hj : j.toInt = i) (hi : i < n) : ¬ (j < 0 ∨ n ≤ j.toNatClampNeg) ∧ j.toNatClampNeg = i := by
  have e : j.toNatClampNeg = i := by rw [← Int32.toNat_toInt, hj]; simp
  refine ⟨fun q => ?_, e⟩
  rw [e, Int32.lt_iff_toInt_lt, hj] at q
  have : (0 : Int32).toInt = 0 := rfl
  omega
theorem Ok.caload (C : Ok l Z a0 EL n0 own h0 ws0 Q code maxL ret nm rm K) {a : Addr} {vs : List Value} {j : Int32} {x : Int32} (i : Nat) (A : Ary Z h a .char vs) (hj : j.toInt = i) (hx : vs[i]? = some (.int x)) (hd : decode code pc = .ok (.caload, 1)) (r : WP l Z EL n0 own h0 ws0 Q K h ws cells slots (mkF K.m (pc + 1) Ls (.int x :: st))) : WP l Z EL n0 own h0 ws0 Q K h ws cells slots (mkF K.m pc Ls (.int j :: .ref a :: st)) := by
  intro vm T locs P
  obtain ⟨c, A, q, hl, f⟩ := A
  have hs : c.slots.size = vs.length := by rw [← q]; simp
  have hi : i < vs.length := (List.getElem?_eq_some_iff.mp hx).1
  obtain ⟨hin, hji⟩ := idx_ok hj (hs ▸ hi)
  exact Goes.of (fun t k => P.1.caload C.exec (by rw [P.2.1]; exact A.1) (State.isArrayOf_alike P.2.2.2.1.alike A.2.1) A.2.2 hin (v := .int x) (by rw [hji, ← Array.getElem?_toList, q]; exact hx) (g := mkF K.m pc Ls (.int j :: .ref a :: st)) rfl rfl (hb C.bytes hd) t k) (r vm T locs P)
theorem Ok.baload (C : Ok l Z a0 EL n0 own h0 ws0 Q code maxL ret nm rm K) {a : Addr} {vs : List Value} {j : Int32} {x : Int32} (i : Nat) (A : Ary Z h a .byte vs) (hj : j.toInt = i) (hx : vs[i]? = some (.int x)) (hd : decode code pc = .ok (.baload, 1)) (r : WP l Z EL n0 own h0 ws0 Q K h ws cells slots (mkF K.m (pc + 1) Ls (.int x :: st))) : WP l Z EL n0 own h0 ws0 Q K h ws cells slots (mkF K.m pc Ls (.int j :: .ref a :: st)) := by
  intro vm T locs P
  obtain ⟨c, A, q, hl, f⟩ := A
  have hs : c.slots.size = vs.length := by rw [← q]; simp
  have hi : i < vs.length := (List.getElem?_eq_some_iff.mp hx).1
  obtain ⟨hin, hji⟩ := idx_ok hj (hs ▸ hi)
  exact Goes.of (fun t k => P.1.baloadBytes C.exec (by rw [P.2.1]; exact A.1) (State.isArrayOf_alike P.2.2.2.1.alike A.2.1) A.2.2 hin (v := .int x) (by rw [hji, ← Array.getElem?_toList, q]; exact hx) (g := mkF K.m pc Ls (.int j :: .ref a :: st)) rfl rfl (hb C.bytes hd) t k) (r vm T locs P)
theorem Ok.laload (C : Ok l Z a0 EL n0 own h0 ws0 Q code maxL ret nm rm K) {a : Addr} {vs : List Value} {j : Int32} {x : Int64} (i : Nat) (A : Ary Z h a .long vs) (hj : j.toInt = i) (hx : vs[i]? = some (.long x)) (hd : decode code pc = .ok (.laload, 1)) (r : WP l Z EL n0 own h0 ws0 Q K h ws cells slots (mkF K.m (pc + 1) Ls (.long x :: st))) : WP l Z EL n0 own h0 ws0 Q K h ws cells slots (mkF K.m pc Ls (.int j :: .ref a :: st)) := by
  intro vm T locs P
  obtain ⟨c, A, q, hl, f⟩ := A
  have hs : c.slots.size = vs.length := by rw [← q]; simp
  have hi : i < vs.length := (List.getElem?_eq_some_iff.mp hx).1
  obtain ⟨hin, hji⟩ := idx_ok hj (hs ▸ hi)
  exact Goes.of (fun t k => P.1.laload C.exec (by rw [P.2.1]; exact A.1) (State.isArrayOf_alike P.2.2.2.1.alike A.2.1) A.2.2 hin (v := .long x) (by rw [hji, ← Array.getElem?_toList, q]; exact hx) (g := mkF K.m pc Ls (.int j :: .ref a :: st)) rfl rfl (hb C.bytes hd) t k) (r vm T locs P)
theorem Ary.set {a : Nat} {ty : FieldType} {vs : List Value} {c : Cell} {h' : Heap} {i : Nat} {v : Value} (A : RoadKit.Arr Z h a c ty) (q : c.slots.toList = vs) (hl : vs.length < 2 ^ 31) (f : ∀ v ∈ vs, fits ty v = true) (hv : fits ty v = true) (W : Wr h h' a i v) : Ary Z h' a ty (vs.set i v) := by
  refine ⟨_, A.same W, ?_, by simpa using hl, fun u hu => ?_⟩
  · simp [Cell.setSlot, q]
  · rcases List.mem_or_eq_of_mem_set hu with hu | rfl
    · exact f u hu
    · exact hv
theorem nar_char {x : Int32} (h0 : 0 ≤ x.toInt) (h1 : x.toInt < 65536) : nar .char x = x := by
  apply Int32.toInt_inj.mp
  have q := c_i2c x
  show x.toUInt32.toUInt16.toUInt32.toInt32.toInt = _
  omega
theorem i2c_id {x : Int32} (h0 : 0 ≤ x.toInt) (h1 : x.toInt < 65536) : x.toUInt32.toUInt16.toUInt32.toInt32 = x := nar_char h0 h1
theorem Ok.castore (C : Ok l Z a0 EL n0 own h0 ws0 Q code maxL ret nm rm K) {a : Nat} {vs : List Value} {j x : Int32} (i : Nat) (A : Ary Z h a .char vs) (hj : j.toInt = i) (hi : i < vs.length) (x0 : 0 ≤ x.toInt) (x1 : x.toInt < 65536) (hd : decode code pc = .ok (.castore, 1)) (ha : a ∈ ws)
    (r : ∀ h' : Heap, h'.size = h.size → Keep h h' [a] → Ary Z h' a .char (vs.set i (.int x)) → WP l Z EL n0 own h0 ws0 Q K h' ws cells slots (mkF K.m (pc + 1) Ls st)) : WP l Z EL n0 own h0 ws0 Q K h ws cells slots (mkF K.m pc Ls (.int x :: .int j :: .ref a :: st)) := by
  intro vm T locs P
  obtain ⟨c, A, q, hl, f⟩ := A
  have hs : c.slots.size = vs.length := by rw [← q]; simp
  obtain ⟨hin, hji⟩ := idx_ok hj (hs ▸ hi)
  obtain ⟨T', h', X', e', W, s'⟩ := stC P.1 C.exec P.2.2.2.1 P.2.1 A hin (g := mkF K.m pc Ls (.int x :: .int j :: .ref a :: st)) rfl rfl (hb C.bytes hd)
  have W' := W
  rw [hji, nar_char x0 x1] at W
  exact Goes.of s' (r h' W'.size (Keep.of_wr W') (Ary.set A q hl f (by have := fits_nar_char x; rwa [nar_char x0 x1] at this) W) vm T' _ (P.wr ha X' e' W'))
theorem Ok.bastore (C : Ok l Z a0 EL n0 own h0 ws0 Q code maxL ret nm rm K) {a : Nat} {vs : List Value} {j x : Int32} (i : Nat) (A : Ary Z h a .byte vs) (hj : j.toInt = i) (hi : i < vs.length) (hd : decode code pc = .ok (.bastore, 1)) (ha : a ∈ ws)
    (r : ∀ h' : Heap, h'.size = h.size → Keep h h' [a] → Ary Z h' a .byte (vs.set i (.int x.toInt8.toInt32)) → WP l Z EL n0 own h0 ws0 Q K h' ws cells slots (mkF K.m (pc + 1) Ls st)) : WP l Z EL n0 own h0 ws0 Q K h ws cells slots (mkF K.m pc Ls (.int x :: .int j :: .ref a :: st)) := by
  intro vm T locs P
  obtain ⟨c, A, q, hl, f⟩ := A
  have hs : c.slots.size = vs.length := by rw [← q]; simp
  obtain ⟨hin, hji⟩ := idx_ok hj (hs ▸ hi)
  obtain ⟨T', h', X', e', W, s'⟩ := stB P.1 C.exec P.2.2.2.1 P.2.1 A hin (g := mkF K.m pc Ls (.int x :: .int j :: .ref a :: st)) rfl rfl (hb C.bytes hd)
  have W' := W
  rw [hji] at W
  exact Goes.of s' (r h' W'.size (Keep.of_wr W') (Ary.set A q hl f (fits_nar_byte x) W) vm T' _ (P.wr ha X' e' W'))
theorem Ok.lastore (C : Ok l Z a0 EL n0 own h0 ws0 Q code maxL ret nm rm K) {a : Nat} {vs : List Value} {j : Int32} {x : Int64} (i : Nat) (A : Ary Z h a .long vs) (hj : j.toInt = i) (hi : i < vs.length) (hd : decode code pc = .ok (.lastore, 1)) (ha : a ∈ ws)
    (r : ∀ h' : Heap, h'.size = h.size → Keep h h' [a] → Ary Z h' a .long (vs.set i (.long x)) → WP l Z EL n0 own h0 ws0 Q K h' ws cells slots (mkF K.m (pc + 1) Ls st)) : WP l Z EL n0 own h0 ws0 Q K h ws cells slots (mkF K.m pc Ls (.long x :: .int j :: .ref a :: st)) := by
  intro vm T locs P
  obtain ⟨c, A, q, hl, f⟩ := A
  have hs : c.slots.size = vs.length := by rw [← q]; simp
  obtain ⟨hin, hji⟩ := idx_ok hj (hs ▸ hi)
  obtain ⟨T', h', X', e', W, s'⟩ := stJ P.1 C.exec P.2.2.2.1 P.2.1 A hin (g := mkF K.m pc Ls (.long x :: .int j :: .ref a :: st)) rfl rfl (hb C.bytes hd)
  have W' := W
  rw [hji] at W
  exact Goes.of s' (r h' W'.size (Keep.of_wr W') (Ary.set A q hl f rfl W) vm T' _ (P.wr ha X' e' W'))
/-! ends -/
theorem endMore {s t : State} {o : Outcome} {L : List Loc} {k n k' n' : Nat} (R : ReturnedEndW s o t L k n) (hk : k ≤ k') (hn : n ≤ n') : ReturnedEndW s o t L k' n' := ⟨R.1, R.2.1, R.2.2.1, R.2.2.2.mono hk hn⟩
theorem Ok.leave (C : Ok l Z a0 EL n0 own h0 ws0 Q code maxL ret nm rm K) {v : Option Value} (hv : ret = none → v = none) (hq : Q v h) (hc : cells ≤ rm.cells) (hl : slots ≤ rm.slots)
    (go : ∀ (T : State) (vm : Vm) (locs : List Loc) (fs : List Frame), Stand K.p l K.e K.R (K.s.setVm vm) K.m K.args K.below K.meth K.c T locs cells slots → (∀ (f : JFrame) (acts : List Action), f.method = K.m → f.locked = none → f.entered = [] → (doReturn K.e (T.setTop f) acts v).1 = T.setFrames fs) → Steps K.p.tables K.e K.below (T.setTop g) (T.setFrames fs)) :
    WP l Z EL n0 own h0 ws0 Q K h ws cells slots g := by
  intro vm T locs P
  obtain ⟨X, eT, ⟨k, hS, hk⟩, hZ, hown, H, N, Kp, O, Ow⟩ := P
  obtain ⟨fs, hr, h1, h2, hR⟩ := X.leaveW hS (by rw [eT]; exact hk) (v := v) (fun q => hv (C.rets.symm.trans q)) C.unlocked
  have eh : (T.setFrames fs).heap = h := eT
  refine ⟨_, _, go T vm locs fs X hr, h1, h2, v, locs, rfl, ⟨by rw [eh]; exact hq, by rw [eh]; exact Kp, N⟩, ?_, endMore hR (by rw [C.room]; exact hc) (by rw [C.room]; exact hl)⟩
  rw [eh]
  show CHr Z EL K.s.vm h0 T.vm h
  exact H.trans (CHv.at X hZ C.ew H.1)
theorem Ok.return_ (C : Ok l Z a0 EL n0 own h0 ws0 Q code maxL ret nm rm K) (hr : ret = none) (hd : decode code pc = .ok (.return_, 1)) (hc : cells ≤ rm.cells) (hl : slots ≤ rm.slots) (hq : Q none h) : WP l Z EL n0 own h0 ws0 Q K h ws cells slots (mkF K.m pc Ls []) :=
  C.leave (v := none) (fun _ => rfl) hq hc hl fun T vm locs fs X hl => X.returnOut C.exec (C.rets.trans hr) (hb C.bytes hd) hl
theorem Ok.ireturn (C : Ok l Z a0 EL n0 own h0 ws0 Q code maxL ret nm rm K) {t : FieldType} {z : Int32} (hr : ret = some t) (ht : t = .int ∨ t = .boolean ∨ t = .byte ∨ t = .char ∨ t = .short) (hn : narrow t (.int z) = .int z) (hd : decode code pc = .ok (.ireturn, 1)) (hc : cells ≤ rm.cells) (hl : slots ≤ rm.slots) (hq : Q (some (.int z)) h) : WP l Z EL n0 own h0 ws0 Q K h ws cells slots (mkF K.m pc Ls (.int z :: st)) :=
  C.leave (v := some (.int z)) (fun q => by rw [hr] at q; cases q) hq hc hl fun T vm locs fs X hl => retOut X C.exec (C.rets.trans hr) hn (Or.inl ⟨rfl, ht, z, rfl⟩) (hb C.bytes hd) hl
theorem Ok.areturn (C : Ok l Z a0 EL n0 own h0 ws0 Q code maxL ret nm rm K) {t : FieldType} {v : Value} (hr : ret = some t) (ht : t.isReference = true) (hv : v.isRef = true) (hd : decode code pc = .ok (.areturn, 1)) (hc : cells ≤ rm.cells) (hl : slots ≤ rm.slots) (hq : Q (some v) h) : WP l Z EL n0 own h0 ws0 Q K h ws cells slots (mkF K.m pc Ls (v :: st)) :=
  C.leave (v := some v) (fun q => by rw [hr] at q; cases q) hq hc hl fun T vm locs fs X hl => retOut X C.exec (C.rets.trans hr) (by rcases ref_cases hv with rfl | ⟨a, rfl⟩ <;> cases t <;> first | rfl | cases ht) (Or.inr (Or.inr (Or.inr (Or.inr ⟨rfl, ht, hv⟩)))) (hb C.bytes hd) hl
theorem Ok.lreturn (C : Ok l Z a0 EL n0 own h0 ws0 Q code maxL ret nm rm K) {z : Int64} (hr : ret = some .long) (hd : decode code pc = .ok (.lreturn, 1)) (hc : cells ≤ rm.cells) (hl : slots ≤ rm.slots) (hq : Q (some (.long z)) h) : WP l Z EL n0 own h0 ws0 Q K h ws cells slots (mkF K.m pc Ls (.long z :: st)) :=
  C.leave (v := some (.long z)) (fun q => by rw [hr] at q; cases q) hq hc hl fun T vm locs fs X hl => retOut X C.exec (C.rets.trans hr) rfl (Or.inr (Or.inl ⟨rfl, rfl, z, rfl⟩)) (hb C.bytes hd) hl
end Rules
end Own
end Jvm.Pilot.@@N@@
namespace Jvm.Pilot.@@N@@
namespace Own
open Jvm Jvm.ClassFile Sem Op Lib Jvm.Free Jvm.Stand Jvm.LawKit Jvm.RoadKit Bundle
section Calls
variable {l : Launch} {Z : State} {a0 : Array Value} {EL : List (String × Nat)} {n0 : Nat} {own : String} {h0 : Heap} {ws0 : List Addr} {Q : Option Value → Heap → Prop} {code : ByteArray} {maxL : Nat} {ret : Option FieldType} {nm : String} {rm : Room} {K : Ctx} {h : Heap} {ws : List Addr} {cells slots pc : Nat} {Ls : Array Slot} {st stk : List Value} {g g' : JFrame}
theorem Ok.topI (C : Ok l Z a0 EL n0 own h0 ws0 Q code maxL ret nm rm K) {x y : Int32} (e : x = y) (r : WP l Z EL n0 own h0 ws0 Q K h ws cells slots (mkF K.m pc Ls (.int y :: st))) : WP l Z EL n0 own h0 ws0 Q K h ws cells slots (mkF K.m pc Ls (.int x :: st)) := by subst e; exact r
theorem Ok.topJ (C : Ok l Z a0 EL n0 own h0 ws0 Q code maxL ret nm rm K) {x y : Int64} (e : x = y) (r : WP l Z EL n0 own h0 ws0 Q K h ws cells slots (mkF K.m pc Ls (.long y :: st))) : WP l Z EL n0 own h0 ws0 Q K h ws cells slots (mkF K.m pc Ls (.long x :: st)) := by subst e; exact r
theorem Ok.more (C : Ok l Z a0 EL n0 own h0 ws0 Q code maxL ret nm rm K) {cells' slots' : Nat} (h1 : cells ≤ cells') (h2 : slots ≤ slots') (r : WP l Z EL n0 own h0 ws0 Q K h ws cells' slots' g) : WP l Z EL n0 own h0 ws0 Q K h ws cells slots g :=
  fun vm T locs P => r vm T locs ⟨P.1.more h1 h2, P.2⟩
theorem Ok.sub (C : Ok l Z a0 EL n0 own h0 ws0 Q code maxL ret nm rm K) {ws' : List Addr} (hs : ∀ x ∈ ws', x ∈ ws) (r : WP l Z EL n0 own h0 ws0 Q K h ws' cells slots g) : WP l Z EL n0 own h0 ws0 Q K h ws cells slots g :=
  fun vm T locs P => r vm T locs ⟨P.1, P.2.1, P.2.2.1, P.2.2.2.1, P.2.2.2.2.1, P.2.2.2.2.2.1, P.2.2.2.2.2.2.1, P.2.2.2.2.2.2.2.1, P.2.2.2.2.2.2.2.2.1, fun x hx => P.2.2.2.2.2.2.2.2.2 x (hs x hx)⟩
theorem Pos.call {vm : Vm} {T U : State} {locs L : List Loc} {ws' : List Addr} {cells' slots' : Nat} (P : Pos l Z EL n0 own h0 ws0 K h ws cells slots vm T locs) (hsub : ∀ x ∈ ws', x ∈ ws) (X' : Stand K.p l K.e K.R ((K.s.setVm vm).setVm U.vm) K.m K.args K.below K.meth K.c U (locs ++ L) cells' slots')
    (hS' : (K.s.setVm vm).Since U.vm U.heap.size) (hkp : Keep h U.heap ws') (hN : Fr n0 L) (hC : CHr Z EL vm h U.vm U.heap) : Pos l Z EL n0 own h0 ws0 K U.heap ws cells' slots' U.vm U (locs ++ L) := by
  obtain ⟨X, eT, ⟨k, hS, hk⟩, hZ, hown, H, N, Kp, O, Ow⟩ := P
  obtain ⟨y1, y2, y3, y4⟩ := rebS hS hk X' hS' hkp.1 hZ hown
  exact ⟨y1, rfl, ⟨_, y2, Nat.le_refl _⟩, y3, y4, H.trans hC, N.app hN, Kp.trans hkp (fun x hx => (Ow x (hsub x hx)).2.2.2), O.keep hkp (fun x hx => (Ow x (hsub x hx)).1),
    fun x hx => ⟨(Ow x hx).1, Nat.lt_of_lt_of_le (Ow x hx).2.1 hkp.1, hC.safe (Ow x hx).2.1 (Ow x hx).2.2.1, (Ow x hx).2.2.2⟩⟩
theorem Ok.callS (C : Ok l Z a0 EL n0 own h0 ws0 Q code maxL ret nm rm K) {y : MethodName} {index : Nat} {bytes' : ByteArray} {maxL' : Nat} {ret' : Option FieldType} {fr lo cl sl : Nat} {ws' : List Addr} {Q' : Option Value → Heap → Prop} {ps : List FieldType} {rt : Option FieldType} (as : List Value) (st : List Value) (W : Nat)
    (w1 : (Jvm.Cond.methodLink own index y).before a0 Z = true) (w2 : (Jvm.Cond.static y).before a0 Z = true) (w3 : (Jvm.Cond.initialized y.cls).before a0 Z = true) (w4 : (Jvm.Cond.code y bytes' maxL' ret').before a0 Z = true) (hy : y.cls ≠ "java/lang/invoke/MethodHandle" ∧ y.cls ≠ "java/lang/invoke/VarHandle")
    (pd : parseMethodDescriptor y.desc = some ⟨ps, rt⟩) (hlen : as.length = ps.length) (M : Con l Z a0 EL n0 y fr lo cl sl as.toArray h ws' Q') (hd : decode code pc = .ok (.invokestatic index, 3)) (hLs : Ls.size = maxL) (hst : stk = as.reverse ++ st) (hW : (st.map fun v => v.category).sum = W)
    (hfr : fr ≤ rm.frames) (hlo : W + lo ≤ rm.locals) (hc : cells + cl ≤ rm.cells) (hs : slots + sl ≤ rm.slots) (hsub : ∀ x ∈ ws', x ∈ ws)
    (r : ∀ (v : Option Value) (h' : Heap), h.size ≤ h'.size → Keep h h' ws' → Q' v h' → WP l Z EL n0 own h0 ws0 Q K h' ws (cells + cl) (slots + sl) (mkF K.m (pc + 3) Ls (v.toList ++ st))) : WP l Z EL n0 own h0 ws0 Q K h ws cells slots (mkF K.m pc Ls stk) := by
  intro vm T locs P
  have P0 := P
  obtain ⟨X, eT, ⟨k, hS, hk⟩, hZ, hown, H, N, Kp, O, Ow⟩ := P
  have B := M K.R K.p K.e K.below K.s K.args 3 W vm hZ C.ew H.1 O (fun x hx => ⟨(Ow x (hsub x hx)).1, (Ow x (hsub x hx)).2.1, (Ow x (hsub x hx)).2.2.1⟩) (by rw [C.room]; exact hfr) (by rw [C.room]; exact hlo)
  obtain ⟨v, vm₁, ⟨U, locs', cells', slots'⟩, -, X', hS', hgr, ⟨L, ⟨hq, hkp, hN⟩, e1, e2, e3, hC⟩, hgo⟩ := callSS X C.exec hown (mv hZ w1) (mv hZ w2) (mv hZ w3) (mv hZ w4) hy B (g := mkF K.m pc Ls stk) rfl (hLs.trans C.maxl.symm) (rest := st) (lenOf pd hlen) hst (by rw [hW]; exact Nat.le_of_eq (Nat.zero_add _)) (hb C.bytes hd) (fun vm₁ _ => ⟨rfl, eT, by rw [C.room]; exact hc, by rw [C.room]; exact hs⟩)
  dsimp only [Pt.U, Pt.locs, Pt.cells, Pt.slots] at X' hS' hgr hq hkp e1 e2 e3 hC hgo
  subst e1 e2 e3
  exact Goes.of (fun t k => hgo.trans k) (r v U.heap hkp.1 hkp hq U.vm U _ (P0.call hsub X' hS' hkp hN hC))
theorem Ok.callN (C : Ok l Z a0 EL n0 own h0 ws0 Q code maxL ret nm rm K) {y : MethodName} {index : Nat} {bytes' : ByteArray} {maxL' : Nat} {fr lo cl sl : Nat} {ws' : List Addr} {Q' : Option Value → Heap → Prop} {ps : List FieldType} {rt : Option FieldType} (a : Nat) (as : List Value) (st : List Value) (W : Nat)
    (w1 : (Jvm.Cond.methodLink own index y).before a0 Z = true) (w2 : (Jvm.Cond.instanceMethod y).before a0 Z = true) (w4 : (Jvm.Cond.code y bytes' maxL' none).before a0 Z = true) (hy1 : y.name = "<init>") (hy : y.cls ≠ "java/lang/invoke/MethodHandle" ∧ y.cls ≠ "java/lang/invoke/VarHandle")
    (pd : parseMethodDescriptor y.desc = some ⟨ps, rt⟩) (hlen : as.length = ps.length) (M : Con l Z a0 EL n0 y fr lo cl sl (Value.ref a :: as).toArray h ws' Q') (hd : decode code pc = .ok (.invokespecial index, 3)) (hLs : Ls.size = maxL) (hst : stk = as.reverse ++ .ref a :: st) (hW : (st.map fun v => v.category).sum = W)
    (hfr : fr ≤ rm.frames) (hlo : W + lo ≤ rm.locals) (hc : cells + cl ≤ rm.cells) (hs : slots + sl ≤ rm.slots) (hsub : ∀ x ∈ ws', x ∈ ws)
    (r : ∀ (v : Option Value) (h' : Heap), h.size ≤ h'.size → Keep h h' ws' → Q' v h' → WP l Z EL n0 own h0 ws0 Q K h' ws (cells + cl) (slots + sl) (mkF K.m (pc + 3) Ls (v.toList ++ st))) : WP l Z EL n0 own h0 ws0 Q K h ws cells slots (mkF K.m pc Ls stk) := by
  intro vm T locs P
  have P0 := P
  obtain ⟨X, eT, ⟨k, hS, hk⟩, hZ, hown, H, N, Kp, O, Ow⟩ := P
  have B := M K.R K.p K.e K.below K.s K.args 3 W vm hZ C.ew H.1 O (fun x hx => ⟨(Ow x (hsub x hx)).1, (Ow x (hsub x hx)).2.1, (Ow x (hsub x hx)).2.2.1⟩) (by rw [C.room]; exact hfr) (by rw [C.room]; exact hlo)
  obtain ⟨v, vm₁, ⟨U, locs', cells', slots'⟩, -, X', hS', hgr, ⟨L, ⟨hq, hkp, hN⟩, e1, e2, e3, hC⟩, hgo⟩ := X.specialBackS C.exec hy1 hown (mv hZ w1) (mv hZ w2) (mv hZ w4) hy B (g := mkF K.m pc Ls stk) rfl (hLs.trans C.maxl.symm) (Steps.refl _) (a := a) (rest := st) (lenOf pd hlen) hst (by rw [hW]; exact Nat.le_of_eq (Nat.zero_add _)) (hb C.bytes hd) (fun vm₁ _ => ⟨rfl, eT, by rw [C.room]; exact hc, by rw [C.room]; exact hs⟩)
  dsimp only [Pt.U, Pt.locs, Pt.cells, Pt.slots] at X' hS' hgr hq hkp e1 e2 e3 hC hgo
  subst e1 e2 e3
  exact Goes.of (fun t k => hgo.trans k) (r v U.heap hkp.1 hkp hq U.vm U _ (P0.call hsub X' hS' hkp hN hC))
theorem Ok.callV (C : Ok l Z a0 EL n0 own h0 ws0 Q code maxL ret nm rm K) {y : MethodName} {J : String} {index : Nat} {fr lo cl sl : Nat} {ws' : List Addr} {Q' : Option Value → Heap → Prop} {ps : List FieldType} {rt : Option FieldType} (b : Nat) (as : List Value) (st : List Value) (W : Nat)
    (w1 : (Jvm.Cond.methodLink own index y).before a0 Z = true) (w2 : (Jvm.Cond.declares y).before a0 Z = true) (w3 : (Jvm.Cond.selects J y y).before a0 Z = true) (w4 : (Jvm.Cond.instanceMethod y).before a0 Z = true) (hy : y.cls ≠ "java/lang/invoke/MethodHandle" ∧ y.cls ≠ "java/lang/invoke/VarHandle") (hyJ : y.cls = J)
    (E : Exa Z h b J) (pd : parseMethodDescriptor y.desc = some ⟨ps, rt⟩) (hlen : as.length = ps.length) (M : Con l Z a0 EL n0 y fr lo cl sl (Value.ref b :: as).toArray h ws' Q') (hd : decode code pc = .ok (.invokevirtual index, 3)) (hLs : Ls.size = maxL) (hst : stk = as.reverse ++ .ref b :: st) (hW : (st.map fun v => v.category).sum = W)
    (hfr : fr ≤ rm.frames) (hlo : W + lo ≤ rm.locals) (hc : cells + cl ≤ rm.cells) (hs : slots + sl ≤ rm.slots) (hsub : ∀ x ∈ ws', x ∈ ws)
    (r : ∀ (v : Option Value) (h' : Heap), h.size ≤ h'.size → Keep h h' ws' → Q' v h' → WP l Z EL n0 own h0 ws0 Q K h' ws (cells + cl) (slots + sl) (mkF K.m (pc + 3) Ls (v.toList ++ st))) : WP l Z EL n0 own h0 ws0 Q K h ws cells slots (mkF K.m pc Ls stk) := by
  intro vm T locs P
  have P0 := P
  obtain ⟨X, eT, ⟨k, hS, hk⟩, hZ, hown, H, N, Kp, O, Ow⟩ := P
  have B := M K.R K.p K.e K.below K.s K.args 3 W vm hZ C.ew H.1 O (fun x hx => ⟨(Ow x (hsub x hx)).1, (Ow x (hsub x hx)).2.1, (Ow x (hsub x hx)).2.2.1⟩) (by rw [C.room]; exact hfr) (by rw [C.room]; exact hlo)
  obtain ⟨cB, kB, q1, -, q3⟩ := isOf (s := K.s.setVm vm) hZ eT E
  subst hyJ
  obtain ⟨v, vm₁, ⟨U, locs', cells', slots'⟩, -, X', hS', hgr, ⟨L, ⟨hq, hkp, hN⟩, e1, e2, e3, hC⟩, hgo⟩ := X.virtualBackS C.exec (y := y) (z := y) hown (mv hZ w1) (mv hZ w2) (notFace_of_selects (args := #[]) (mv hZ w3)) (mv hZ w3) (mv hZ w4) hy B q1 q3 (g := mkF K.m pc Ls stk) rfl (hLs.trans C.maxl.symm) (Steps.refl _) (argsL := as) (rest := st) (lenOf pd hlen) hst (by rw [hW]; exact Nat.le_of_eq (Nat.zero_add _)) (hb C.bytes hd) (fun vm₁ _ => ⟨rfl, eT, by rw [C.room]; exact hc, by rw [C.room]; exact hs⟩)
  dsimp only [Pt.U, Pt.locs, Pt.cells, Pt.slots] at X' hS' hgr hq hkp e1 e2 e3 hC hgo
  subst e1 e2 e3
  exact Goes.of (fun t k => hgo.trans k) (r v U.heap hkp.1 hkp hq U.vm U _ (P0.call hsub X' hS' hkp hN hC))
theorem Ok.initO (C : Ok l Z a0 EL n0 own h0 ws0 Q code maxL ret nm rm K) {index : Nat} {a : Nat} (W : Nat) (w1 : (Jvm.Cond.methodLink own index Lib.objectInit).before a0 Z = true) (w2 : (Jvm.Cond.instanceMethod Lib.objectInit).before a0 Z = true) (w3 : (Jvm.Cond.code Lib.objectInit ⟨#[0xb1]⟩ 1 none).before a0 Z = true) (hd : decode code pc = .ok (.invokespecial index, 3)) (hLs : Ls.size = maxL)
    (hW : (st.map fun v => v.category).sum = W) (hfr : 1 ≤ rm.frames) (hlo : W + 12 ≤ rm.locals) (r : WP l Z EL n0 own h0 ws0 Q K h ws cells slots (mkF K.m (pc + 3) Ls st)) : WP l Z EL n0 own h0 ws0 Q K h ws cells slots (mkF K.m pc Ls (.ref a :: st)) := by
  intro vm T locs P
  obtain ⟨T', X', e', s'⟩ := RoadKit.initO P.1 C.exec P.2.2.2.1 P.2.2.2.2.1 w1 w2 w3 P.2.1 (g := mkF K.m pc Ls (.ref a :: st)) rfl (hLs.trans C.maxl.symm) rfl (hb C.bytes hd) (by rw [C.room]; exact hfr) (W := W) (by rw [← hW]; exact Nat.le_of_eq (Nat.zero_add _)) (by rw [C.room]; exact hlo)
  exact Goes.of s' (r vm T' locs ⟨X', e', P.2.2⟩)
/-- ldc of a String constant whose text is read -/
theorem Ok.ldcC (C : Ok l Z a0 EL n0 own h0 ws0 Q code maxL ret nm rm K) {text : String} {index : Nat} {vs : List Value} {z : Int32} (n : Nat) (w : (Jvm.Cond.stringLink own index text).before a0 Z = true) (wS : ∀ a ∈ Bundle.stringAtoms, a.before a0 Z = true) (hmem : (own, index) ∈ EL)
    (ht : (∀ c ∈ text.toList, c.toNat < 256) ∧ text.toList.map (fun c => Value.int (Jvm.Lit.byteI c.toNat.toUInt16)) = vs) (hz : ¬ z < 0) (hl : z.toNatClampNeg = vs.length) (hn : 4 * text.toList.length ≤ n) (hbig : n ≤ 536870912) (hd : decode code pc = .ok (.ldc index, 2)) (hc : cells + 2 ≤ rm.cells) (hl' : slots + (n + 4) ≤ rm.slots)
    (r : ∀ (h' : Heap) (a b : Nat), h.size ≤ h'.size → Keep h h' [] → a < h'.size → b < h'.size → (∀ x ∈ ws, @Ne Nat x a ∧ @Ne Nat x b) → Exa Z h' a "java/lang/String" → Fld Z h' a "java/lang/String" "coder" "B" (.int 0) → Fld Z h' a "java/lang/String" "value" "[B" (.ref b) → Ary Z h' b .byte vs → WP l Z EL n0 own h0 ws0 Q K h' ws (cells + 2) (slots + (n + 4)) (mkF K.m (pc + 2) Ls (.ref a :: st))) :
    WP l Z EL n0 own h0 ws0 Q K h ws cells slots (mkF K.m pc Ls st) := by
  intro vm T locs P
  obtain ⟨X, eT, ⟨k, hS, hk⟩, hZ, hown, H, N, Kp, O, Ow⟩ := P
  obtain ⟨a, T', h', k1, b, kc, X', e', E, hS', hk', hZ', hown', F1, F2, F3, F4, la, lb, hC, -, hne, go⟩ := ldcCH X C.exec hZ hown w wS eT hS hk C.ew hmem H.1 ht hz hl (g := mkF K.m pc Ls st) rfl (hb C.bytes hd) hn hbig (by rw [C.room]; exact hc) (by rw [C.room]; exact hl')
  have Sf : ∀ x ∈ ws, Safe Z EL T'.vm h' x := fun x hx => hC.safe (Ow x hx).2.1 (Ow x hx).2.2.1
  exact Goes.of go (r h' a b E.1 (keep_ext E) la lb (fun x hx => hne x (Sf x hx)) F1 F2 F3 (Ary.of_arv F4 hl) T'.vm T' locs ⟨X', e', ⟨k1, hS', hk'⟩, hZ', hown', H.trans hC, N, Kp.ext E, O.ext E, fun x hx => ⟨(Ow x hx).1, Nat.lt_of_lt_of_le (Ow x hx).2.1 E.1, Sf x hx, (Ow x hx).2.2.2⟩⟩)
/-- ldc of a String constant, unread -/
theorem Ok.ldcO (C : Ok l Z a0 EL n0 own h0 ws0 Q code maxL ret nm rm K) {text : String} {index : Nat} (n : Nat) (w : (Jvm.Cond.stringLink own index text).before a0 Z = true) (wS : ∀ a ∈ Bundle.stringAtoms, a.before a0 Z = true) (hn : 4 * text.toList.length ≤ n) (hbig : n ≤ 536870912) (hd : decode code pc = .ok (.ldc index, 2)) (hc : cells + 2 ≤ rm.cells) (hl' : slots + (n + 4) ≤ rm.slots)
    (r : ∀ (h' : Heap) (a : Nat), h.size ≤ h'.size → Keep h h' [] → WP l Z EL n0 own h0 ws0 Q K h' ws (cells + 2) (slots + (n + 4)) (mkF K.m (pc + 2) Ls (.ref a :: st))) : WP l Z EL n0 own h0 ws0 Q K h ws cells slots (mkF K.m pc Ls st) := by
  intro vm T locs P
  obtain ⟨X, eT, ⟨k, hS, hk⟩, hZ, hown, H, N, Kp, O, Ow⟩ := P
  obtain ⟨a, T', h', k1, X', e', E, hS', hk', hZ', hown', hC, -, go⟩ := ldcOH X C.exec hZ hown w wS eT hS hk C.ew H.1 (g := mkF K.m pc Ls st) rfl (hb C.bytes hd) hn hbig (by rw [C.room]; exact hc) (by rw [C.room]; exact hl')
  exact Goes.of go (r h' a E.1 (keep_ext E) T'.vm T' locs ⟨X', e', ⟨k1, hS', hk'⟩, hZ', hown', H.trans hC, N, Kp.ext E, O.ext E, fun x hx => ⟨(Ow x hx).1, Nat.lt_of_lt_of_le (Ow x hx).2.1 E.1, hC.safe (Ow x hx).2.1 (Ow x hx).2.2.1, (Ow x hx).2.2.2⟩⟩)
end Calls
section Laws
variable {l : Launch} {Z : State} {a0 : Array Value} {EL : List (String × Nat)} {n0 : Nat} {Q : Option Value → Heap → Prop} {h : Heap} {ws : List Addr}
/-- from the body to the law -/
theorem Met.of {y : MethodName} {bytes : ByteArray} {maxL : Nat} {ret : Option FieldType} {rm : Room} {cs : List Jvm.Cond} {as : Array Value} {own nm : String} (Ls : Array Slot) (hEL : EW Z a0 EL) (ho : y.cls = own) (hn : y.name = nm) (pn : plainFor y = true) (ef : ∀ m, entryFrame m as maxL = mkF m 0 Ls [])
    (body : ∀ K : Ctx, Ok l Z a0 EL n0 own h ws Q bytes maxL ret nm rm K → WP l Z EL n0 own h ws Q K h ws 0 0 (mkF K.m 0 Ls [])) : Met l Z EL n0 y bytes maxL ret rm cs as h ws Q := by
  subst ho hn
  refine MetFree.of_bodySF pn hisR ?_
  intro p e s m args below meth c s₁ Bd hml hP hK
  obtain ⟨rfl, hZ, hh, H, O, hs⟩ := hP
  subst hh
  have X : Stand p l e rm s m args below meth c s₁ [] 0 0 := Stand.of_body Bd
  have hown : s.vm.findClass y.cls = some m.cls := findClass_of_methodNamed Bd.named
  have eh : s₁.heap = s.heap := by rw [Bd.state]; rfl
  obtain ⟨s₂, o, h1, h2, h3, h4⟩ := body (p, e, rm, s, m, args, below, meth, c) ⟨Bd.exec, hEL, Bd.bytes, hml, Bd.returns, (name_of_methodNamed Bd.named Bd.method).1, Bd.notSynchronized, rfl⟩ s.vm s₁ []
    ⟨X, eh, ⟨s.heap.size, (State.WarmedH.refl s).since _, Nat.le_refl _⟩, hZ, hown, CHr.refl H, Fr.nil _, Keep.refl _ _, O, fun x hx => ⟨(hs x hx).1, (hs x hx).2.1, (hs x hx).2.2, Or.inl hx⟩⟩
  exact ⟨s₂, o, castTop (ef m) h1, h2, h3, h4⟩
/-- from the body's law to a caller's -/
theorem Met.con {y : MethodName} {bytes : ByteArray} {maxL : Nat} {ret : Option FieldType} {rm : Room} {as : Array Value} (M : Met l Z EL n0 y bytes maxL ret rm [] as h ws Q) (wc : (Jvm.Cond.code y bytes maxL ret).before a0 Z = true) (wz : (Jvm.Cond.initialized y.cls).before a0 Z = true) {fr lo cl sl : Nat} (e1 : rm.frames + 1 = fr) (e2 : maxL + 11 + rm.locals = lo) (e3 : rm.cells = cl) (e4 : rm.slots = sl) :
    Con l Z a0 EL n0 y fr lo cl sl as h ws Q := by
  subst e1 e2 e3 e4
  intro R p e below s args len W vm0 hZ hEL H O hs hf hl
  exact BackS.of_freeW (bytes := bytes) (maxL := maxL) (ret := ret) (E := fun _ first o t L k n => k = rm.cells ∧ n = rm.slots ∧ (∃ v, o = .returned v ∧ Q v t.heap ∧ Keep h t.heap ws ∧ Fr n0 L) ∧ CHr Z EL first.vm h t.vm t.heap) M hf (by show W + (maxL + 11) + rm.locals ≤ _; omega)
    (fun m meth c A a Y hp => by
      have hU : Z.Warmed39 A.U.vm := wtrans (s := s.setVm vm0) hZ Y.warmed
      exact ⟨by show (Jvm.Cond.and _ .tt).before a A.U = true; rw [Cond.before_and, mv hU wc]; rfl, mv hU wc, mv hU wz, hp.2.2.1, hp.2.2.2⟩)
    (fun m meth c A a g mk Y hp => by
      have q := CHv.at Y hZ hEL H
      exact ⟨hp.1, wtrans (s := s.setVm vm0) hZ Y.warmed, hp.2.1, q.1, O, fun x hx => ⟨(hs x hx).1, (hs x hx).2.1, q.safe (hs x hx).2.1 (hs x hx).2.2⟩⟩)
    (fun _ _ _ _ _ _ _ _ _ => trivial)
    (fun _ _ _ _ ⟨v, L, h1, h2, h3, h4⟩ => ⟨L, _, _, h4, rfl, rfl, ⟨v, h1, h2⟩, h3⟩)
    (fun m meth c A a g mk v t L k n Y hp _ _ ⟨e1, e2, ⟨v', e3, e4⟩, e5⟩ => by
      cases e3; subst e1 e2
      exact ⟨L, e4, rfl, rfl, rfl, (CHv.at Y hZ hEL H).trans e5⟩)
theorem Con.wk {y : MethodName} {fr lo cl sl : Nat} {as : Array Value} {Q' : Option Value → Heap → Prop} (M : Con l Z a0 EL n0 y fr lo cl sl as h ws Q) (hq : ∀ v h', Keep h h' ws → Q v h' → Q' v h') : Con l Z a0 EL n0 y fr lo cl sl as h ws Q' := by
  intro R p e below s args len W vm0 hZ hEL H O hs hf hl m meth c A g ig mk a X hg hsize hdg hW hn hp
  obtain ⟨v, B, X', hS, hgr, ⟨L, ⟨q1, q2⟩, q3⟩, hst⟩ := M R p e below s args len W vm0 hZ hEL H O hs hf hl m meth c A g ig mk a X hg hsize hdg hW hn hp
  exact ⟨v, B, X', hS, hgr, ⟨L, ⟨hq _ _ q2.1 q1, q2⟩, q3⟩, hst⟩
end Laws
end Own
end Jvm.Pilot.@@N@@
namespace Jvm.Pilot.@@N@@
namespace Own
open Jvm Jvm.ClassFile Sem Op Lib Jvm.Free Jvm.Stand Jvm.LawKit Jvm.RoadKit Bundle
/-! Strings -/
theorem neA {a b : Nat} (q : @LT.lt Nat _ a b ∨ @LT.lt Nat _ b a) : a ≠ b := fun e => by subst e; exact q.elim (Nat.lt_irrefl _) (Nat.lt_irrefl _)
abbrev ST : String := "java/lang/String"
def lo8 (x : Int32) : Int32 := x.toInt8.toInt32
def hi8 (x : Int32) : Int32 := lo8 (x >>> ((8 : Int32) &&& 31))
def wide : List Int32 → List Value
  | [] => []
  | c :: cs => .int (lo8 c) :: .int (hi8 c) :: wide cs
def Codes (cs : List Int32) (cd : Int32) (vs : List Value) : Prop :=
  (cd = 0 ∧ vs = cs.map (fun c => Value.int (lo8 c)) ∧ ∀ c ∈ cs, 0 ≤ c.toInt ∧ c.toInt < 256) ∨ (cd = 1 ∧ vs = wide cs ∧ (∀ c ∈ cs, 0 ≤ c.toInt ∧ c.toInt < 65536) ∧ ∃ c ∈ cs, 255 < c.toInt)
/-- at x stands a String that spells cs; it and its bytes lie below N -/
def Str (Z : State) (h : Heap) (N : Nat) (x : Nat) (cs : List Int32) : Prop :=
  Exa Z h x ST ∧ x < N ∧ N ≤ h.size ∧ ∃ (t : Nat) (cd : Int32) (vs : List Value), t < N ∧ Fld Z h x ST "value" "[B" (.ref t) ∧ Fld Z h x ST "coder" "B" (.int cd) ∧ Ary Z h t .byte vs ∧ Codes cs cd vs
theorem exaLt {Z : State} {h : Heap} {x : Nat} {C : String} (E : Exa Z h x C) : x < h.size := E.lt
theorem fldLt {Z : State} {h : Heap} {x : Nat} {C n d : String} {v : Value} (E : Fld Z h x C n d v) : x < h.size := E.lt
theorem Str.keep {Z : State} {h h' : Heap} {N : Nat} {x : Nat} {cs : List Int32} {us : List Addr} (S : Str Z h N x cs) (Kp : Keep h h' us) (q : ∀ w ∈ us, N ≤ w) : Str Z h' N x cs := by
  obtain ⟨E, hx, hN, t, cd, vs, ht, F1, F2, A, c⟩ := S
  have nx : ∀ z, z < N → z ∉ us := fun z hz hm => by have := q z hm; omega
  exact ⟨E.keep Kp, hx, Nat.le_trans hN Kp.1, t, cd, vs, ht, F1.keep Kp (nx x hx), F2.keep Kp (nx x hx), A.keep Kp (nx t ht), c⟩
theorem Str.exa {Z : State} {h : Heap} {N : Nat} {x : Nat} {cs : List Int32} (S : Str Z h N x cs) : Exa Z h x ST := S.1
theorem Str.lt {Z : State} {h : Heap} {N : Nat} {x : Nat} {cs : List Int32} (S : Str Z h N x cs) : x < N ∧ N ≤ h.size := ⟨S.2.1, S.2.2.1⟩
theorem ord_of {s : State} {args : Array Value} {t : Term} {x : Nat} {C n d : String} {k : Int32} (ev : t.eval args s none [] s = some (.ref x)) (h : (Jvm.Cond.eq (.field t C n d) (.int k)).value args s none s [] = some true) : s.fieldOf? x C n d = some (.int k) := by
  have q := eqv_i (Term.int_eval k) h
  rwa [fld_at ev] at q
/-! numbers -/
theorem and_chr (x : Int32) : 0 ≤ ((x &&& 255).toUInt32.toUInt16.toUInt32.toInt32).toInt ∧ ((x &&& 255).toUInt32.toUInt16.toUInt32.toInt32).toInt < 256 := by
  have q := c_and x 255 (by decide)
  have e : (255 : Int32).toInt = 255 := by decide
  rw [i2c_id (by omega) (by omega)]
  omega
theorem and_pos (x : Int32) : 0 ≤ (x &&& 2147483647).toInt := (c_and x 2147483647 (by decide)).1
theorem rem_pos {x y : Int32} (k : Int) (hx : 0 ≤ x.toInt) (hy : y.toInt = k) (hk : 0 < k) : 0 ≤ (x % y).toInt ∧ (x % y).toInt < k ∧ (x % y).toInt = x.toInt % k := by
  have q := (c_irem x y k hy).1 hx
  have := Int.emod_nonneg x.toInt (show k ≠ 0 by omega)
  have := Int.emod_lt_of_pos x.toInt hk
  omega
theorem Ary.int {Z : State} {h : Heap} {a : Nat} {vs : List Value} {k : Nat} (A : Ary Z h a .byte vs) (hk : k < vs.length) : ∃ x : Int32, vs[k]? = some (.int x) := by
  obtain ⟨c, -, -, -, f⟩ := A
  have q := f vs[k] (List.getElem_mem hk)
  obtain ⟨x, hx⟩ := fit_I q (by simp)
  exact ⟨x, by rw [List.getElem?_eq_getElem hk, hx]⟩
theorem take_eq_succ {α : Type} {vs us : List α} {k : Nat} {x : α} (q : vs.take k = us.take k) (h1 : vs[k]? = some x) (h2 : us[k]? = some x) : vs.take (k + 1) = us.take (k + 1) := by
  rw [List.take_add_one, List.take_add_one, q, h1, h2]
theorem lo8_inj {x y : Int32} (hx : 0 ≤ x.toInt ∧ x.toInt < 256) (hy : 0 ≤ y.toInt ∧ y.toInt < 256) (e : lo8 x = lo8 y) : x = y := by
  have q1 := c_i2b x
  have q2 := c_i2b y
  have e' : x.toInt8.toInt32.toInt = y.toInt8.toInt32.toInt := by rw [show x.toInt8.toInt32 = y.toInt8.toInt32 from e]
  apply Int32.toInt_inj.mp
  omega
theorem map_lo8_inj : ∀ {cs ds : List Int32}, (∀ c ∈ cs, 0 ≤ c.toInt ∧ c.toInt < 256) → (∀ c ∈ ds, 0 ≤ c.toInt ∧ c.toInt < 256) → cs.map (fun c => Value.int (lo8 c)) = ds.map (fun c => Value.int (lo8 c)) → cs = ds
  | [], [], _, _, _ => rfl
  | [], _ :: _, _, _, h => by simp at h
  | _ :: _, [], _, _, h => by simp at h
  | c :: cs, d :: ds, hc, hd, h => by
    simp only [List.map_cons, List.cons.injEq, Value.int.injEq] at h
    rw [lo8_inj (hc c (by simp)) (hd d (by simp)) h.1, map_lo8_inj (fun z hz => hc z (by simp [hz])) (fun z hz => hd z (by simp [hz])) h.2]
/-- all its chars below 256 -/
def Lat (cs : List Int32) : Prop := ∀ c ∈ cs, c.toInt < 256
theorem Codes.lat {cs : List Int32} {cd : Int32} {vs : List Value} (c : Codes cs cd vs) (hl : Lat cs) : cd = 0 ∧ vs = cs.map (fun c => Value.int (lo8 c)) ∧ ∀ c ∈ cs, 0 ≤ c.toInt ∧ c.toInt < 256 := by
  rcases c with c | ⟨-, -, -, c, hc, q⟩
  · exact c
  · have := hl c hc; omega
theorem wide_len (cs : List Int32) : (wide cs).length = 2 * cs.length := by
  induction cs with
  | nil => rfl
  | cons c cs ih => simp [wide, ih]; omega
theorem Codes.cd {cs : List Int32} {cd : Int32} {vs : List Value} (c : Codes cs cd vs) : cd = 0 ∨ cd = 1 := c.imp (·.1) (·.1)
theorem Codes.len {cs : List Int32} {cd : Int32} {vs : List Value} (c : Codes cs cd vs) (hl : vs.length < 2147483648) : (Int32.ofNat vs.length) >>> (cd &&& 31) = Int32.ofNat cs.length := by
  apply Int32.toInt_inj.mp
  have e : (Int32.ofNat vs.length).toInt = vs.length := Int32.toInt_ofNat_small hl
  rcases c with ⟨rfl, rfl, -⟩ | ⟨rfl, rfl, -⟩
  · rw [c_ishr _ 0 0 (by decide), e]
    simp only [List.length_map] at hl ⊢
    rw [Int32.toInt_ofNat_small hl]; simp
  · rw [c_ishr _ 1 1 (by decide), e]
    rw [wide_len] at hl ⊢
    rw [Int32.toInt_ofNat_small (by omega)]; simp
theorem Codes.nil {cs : List Int32} {cd : Int32} {vs : List Value} (c : Codes cs cd vs) : cs = [] ↔ vs.length = 0 := by
  rcases c with ⟨-, rfl, -⟩ | ⟨-, rfl, -⟩
  · simp
  · rw [wide_len, ← List.length_eq_zero_iff]; omega
theorem lcmp_self (x : Int64) : (lcmpW x x).toInt = 0 := (c_lcmp x x).2.1 rfl
theorem nchar {x : Int32} (h0 : 0 ≤ x.toInt) (h1 : x.toInt < 65536) : narrow .char (.int x) = .int x := by
  show Value.int (nar .char x) = _
  rw [nar_char h0 h1]
theorem ofNat_int {k : Nat} (h : k < 2147483648) : (Int32.ofNat k).toInt = k := Int32.toInt_ofNat_small h
theorem ofNat_succ (k : Nat) : Int32.ofNat k + (1 : Int32) = Int32.ofNat (k + 1) := by
  rw [show (1 : Int32) = Int32.ofNat 1 from rfl, ← Int32.ofNat_add]
theorem lo8_lo8 (x : Int32) : x.toInt8.toInt32.toInt8.toInt32 = lo8 x := by
  show (x.toInt8.toInt32.toInt8).toInt32 = x.toInt8.toInt32
  rw [Int8.toInt8_toInt32]
theorem fill_step {α β : Type} (f : α → β) (z : β) {cs : List α} {k j : Nat} {c : α} (hc : cs[k]? = some c) : ((cs.take k).map f ++ List.replicate (j + 1) z).set k (f c) = (cs.take (k + 1)).map f ++ List.replicate j z := by
  have hk : k < cs.length := (List.getElem?_eq_some_iff.mp hc).1
  have e : cs.take (k + 1) = cs.take k ++ [c] := by rw [List.take_add_one, hc]; rfl
  rw [e, List.map_append, List.set_append_right _ _ (by simp; omega)]
  simp [List.replicate_succ, Nat.min_eq_left (Nat.le_of_lt hk)]
end Own
end Jvm.Pilot.@@N@@
namespace Jvm.Pilot.@@N@@
open Jvm Jvm.ClassFile Sem Op Lib Jvm.Free Jvm.Stand Jvm.LawKit Jvm.RoadKit Bundle Jvm.Pilot.@@N@@.Jvm.D Jvm.Pilot.@@N@@.Own
abbrev EL : List (String × Nat) := [("com/example/halysis/halysis/VerifyResult", 37), ("java/lang/String", 7)]
def Base (Z : State) (a0 : Array Value) (kS : Nat) : Prop := (∀ d ∈ tables_1, d.before a0 Z = true) ∧ (∃ zc : Int32, Sta Z Z.heap "java/lang/String" "COMPACT_STRINGS" "Z" (.int zc) ∧ ¬ zc = 0) ∧ Sta Z Z.heap "com/example/halysis/halysis/VerifyResult$Kind" "CHECKPOINT_MISSING" "Lcom/example/halysis/halysis/VerifyResult$Kind;" (.ref kS)
variable {l : Launch} {Z : State} {a0 : Array Value} {n0 : Nat}
theorem ew {kS : Nat} (B : Base Z a0 kS) : EW Z a0 EL := EW.cons (text := "") (B.1 _ (List.mem_of_getElem? (i := 39) rfl)) (by decide) (EW.cons (text := "") (B.1 _ (List.mem_of_getElem? (i := 118) rfl)) (by decide) (EW.nil))
theorem sA_mem : ∀ d ∈ Bundle.stringAtoms, d ∈ tables_1 := by decide +kernel
theorem sA {kS : Nat} (B : Base Z a0 kS) : ∀ d ∈ Bundle.stringAtoms, d.before a0 Z = true := fun d hd => B.1 d (sA_mem d hd)
theorem d0_0 : decode jdk_52_method_15_code 0 = .ok (.iload_n 1, 1) := by decide +kernel
theorem d0_1 : decode jdk_52_method_15_code 1 = .ok (.aload_n 0, 1) := by decide +kernel
theorem d0_2 : decode jdk_52_method_15_code 2 = .ok (.arraylength, 1) := by decide +kernel
theorem d0_3 : decode jdk_52_method_15_code 3 = .ok (.isub, 1) := by decide +kernel
theorem d0_4 : decode jdk_52_method_15_code 4 = .ok (.bipush 31, 2) := by decide +kernel
theorem d0_6 : decode jdk_52_method_15_code 6 = .ok (.iushr, 1) := by decide +kernel
theorem d0_7 : decode jdk_52_method_15_code 7 = .ok (.i2b, 1) := by decide +kernel
theorem d0_8 : decode jdk_52_method_15_code 8 = .ok (.ireturn, 1) := by decide +kernel
theorem pn_java_lang_StringUTF16 : plainName "java/lang/StringUTF16" = true := by first | (simp [plainName, overriddenIn]; done) | decide +kernel
theorem d1_0 : decode jdk_52_method_21_code 0 = .ok (.iconst 0, 1) := by decide +kernel
theorem d1_1 : decode jdk_52_method_21_code 1 = .ok (.istore 5, 2) := by decide +kernel
theorem d1_3 : decode jdk_52_method_21_code 3 = .ok (.iload 5, 2) := by decide +kernel
theorem d1_5 : decode jdk_52_method_21_code 5 = .ok (.iload 4, 2) := by decide +kernel
theorem d1_7 : decode jdk_52_method_21_code 7 = .ok (.if_icmp .ge 37, 3) := by decide +kernel
theorem d1_44 : decode jdk_52_method_21_code 44 = .ok (.iload 4, 2) := by decide +kernel
theorem d1_46 : decode jdk_52_method_21_code 46 = .ok (.ireturn, 1) := by decide +kernel
theorem d1_10 : decode jdk_52_method_21_code 10 = .ok (.aload_n 0, 1) := by decide +kernel
theorem d1_11 : decode jdk_52_method_21_code 11 = .ok (.iload_n 1, 1) := by decide +kernel
theorem d1_12 : decode jdk_52_method_21_code 12 = .ok (.caload, 1) := by decide +kernel
theorem d1_13 : decode jdk_52_method_21_code 13 = .ok (.istore 6, 2) := by decide +kernel
theorem d1_15 : decode jdk_52_method_21_code 15 = .ok (.iload 6, 2) := by decide +kernel
theorem d1_17 : decode jdk_52_method_21_code 17 = .ok (.sipush 255, 3) := by decide +kernel
theorem d1_20 : decode jdk_52_method_21_code 20 = .ok (.if_icmp .le 6, 3) := by decide +kernel
theorem d1_26 : decode jdk_52_method_21_code 26 = .ok (.aload_n 2, 1) := by decide +kernel
theorem d1_27 : decode jdk_52_method_21_code 27 = .ok (.iload_n 3, 1) := by decide +kernel
theorem d1_28 : decode jdk_52_method_21_code 28 = .ok (.iload 6, 2) := by decide +kernel
theorem d1_30 : decode jdk_52_method_21_code 30 = .ok (.i2b, 1) := by decide +kernel
theorem d1_31 : decode jdk_52_method_21_code 31 = .ok (.bastore, 1) := by decide +kernel
theorem d1_32 : decode jdk_52_method_21_code 32 = .ok (.iinc 1 1, 3) := by decide +kernel
theorem d1_35 : decode jdk_52_method_21_code 35 = .ok (.iinc 3 1, 3) := by decide +kernel
theorem d1_38 : decode jdk_52_method_21_code 38 = .ok (.iinc 5 1, 3) := by decide +kernel
theorem d1_41 : decode jdk_52_method_21_code 41 = .ok (.goto (-38), 3) := by decide +kernel
theorem d2_0 : decode jdk_52_method_16_code 0 = .ok (.iload_n 2, 1) := by decide +kernel
theorem d2_1 : decode jdk_52_method_16_code 1 = .ok (.newarray .byte, 2) := by decide +kernel
theorem d2_3 : decode jdk_52_method_16_code 3 = .ok (.astore_n 3, 1) := by decide +kernel
theorem d2_4 : decode jdk_52_method_16_code 4 = .ok (.aload_n 0, 1) := by decide +kernel
theorem d2_5 : decode jdk_52_method_16_code 5 = .ok (.iload_n 1, 1) := by decide +kernel
theorem d2_6 : decode jdk_52_method_16_code 6 = .ok (.aload_n 3, 1) := by decide +kernel
theorem d2_7 : decode jdk_52_method_16_code 7 = .ok (.iconst 0, 1) := by decide +kernel
theorem d2_8 : decode jdk_52_method_16_code 8 = .ok (.iload_n 2, 1) := by decide +kernel
theorem d2_9 : decode jdk_52_method_16_code 9 = .ok (.invokestatic 115, 3) := by decide +kernel
theorem pd__28__5b_CI_5b_BII_29_I : parseMethodDescriptor "([CI[BII)I" = some ⟨[(.array .char), .int, (.array .byte), .int, .int], some .int⟩ := by decide +kernel
theorem d2_12 : decode jdk_52_method_16_code 12 = .ok (.istore 4, 2) := by decide +kernel
theorem d2_14 : decode jdk_52_method_16_code 14 = .ok (.iload 4, 2) := by decide +kernel
theorem d2_16 : decode jdk_52_method_16_code 16 = .ok (.iload_n 2, 1) := by decide +kernel
theorem d2_17 : decode jdk_52_method_16_code 17 = .ok (.if_icmp .eq 40, 3) := by decide +kernel
theorem d2_57 : decode jdk_52_method_16_code 57 = .ok (.aload_n 3, 1) := by decide +kernel
theorem d2_58 : decode jdk_52_method_16_code 58 = .ok (.areturn, 1) := by decide +kernel
theorem d3_0 : decode jdk_42_method_149_code 0 = .ok (.aload_n 0, 1) := by decide +kernel
theorem d3_1 : decode jdk_42_method_149_code 1 = .ok (.invokespecial 1, 3) := by decide +kernel
theorem d3_4 : decode jdk_42_method_149_code 4 = .ok (.iload_n 3, 1) := by decide +kernel
theorem d3_5 : decode jdk_42_method_149_code 5 = .ok (.ifCond .ne 22, 3) := by decide +kernel
theorem d3_27 : decode jdk_42_method_149_code 27 = .ok (.getstatic 38, 3) := by decide +kernel
theorem d3_30 : decode jdk_42_method_149_code 30 = .ok (.ifCond .eq 28, 3) := by decide +kernel
theorem d3_33 : decode jdk_42_method_149_code 33 = .ok (.aload_n 1, 1) := by decide +kernel
theorem d3_34 : decode jdk_42_method_149_code 34 = .ok (.iload_n 2, 1) := by decide +kernel
theorem d3_35 : decode jdk_42_method_149_code 35 = .ok (.iload_n 3, 1) := by decide +kernel
theorem d3_36 : decode jdk_42_method_149_code 36 = .ok (.invokestatic 177, 3) := by decide +kernel
theorem pd__28__5b_CII_29__5b_B : parseMethodDescriptor "([CII)[B" = some ⟨[(.array .char), .int, .int], some (.array .byte)⟩ := by decide +kernel
theorem d3_39 : decode jdk_42_method_149_code 39 = .ok (.astore 5, 2) := by decide +kernel
theorem d3_41 : decode jdk_42_method_149_code 41 = .ok (.aload_n 0, 1) := by decide +kernel
theorem d3_42 : decode jdk_42_method_149_code 42 = .ok (.aload 5, 2) := by decide +kernel
theorem d3_44 : decode jdk_42_method_149_code 44 = .ok (.iload_n 3, 1) := by decide +kernel
theorem d3_45 : decode jdk_42_method_149_code 45 = .ok (.invokestatic 47, 3) := by decide +kernel
theorem pd__28__5b_BI_29_B : parseMethodDescriptor "([BI)B" = some ⟨[(.array .byte), .int], some .byte⟩ := by decide +kernel
theorem d3_48 : decode jdk_42_method_149_code 48 = .ok (.putfield 15, 3) := by decide +kernel
theorem d3_51 : decode jdk_42_method_149_code 51 = .ok (.aload_n 0, 1) := by decide +kernel
theorem d3_52 : decode jdk_42_method_149_code 52 = .ok (.aload 5, 2) := by decide +kernel
theorem d3_54 : decode jdk_42_method_149_code 54 = .ok (.putfield 9, 3) := by decide +kernel
theorem d3_57 : decode jdk_42_method_149_code 57 = .ok (.return_, 1) := by decide +kernel
theorem d3_8 : decode jdk_42_method_149_code 8 = .ok (.aload_n 0, 1) := by decide +kernel
theorem d3_9 : decode jdk_42_method_149_code 9 = .ok (.ldc 7, 2) := by decide +kernel
theorem d3_11 : decode jdk_42_method_149_code 11 = .ok (.getfield 9, 3) := by decide +kernel
theorem d3_14 : decode jdk_42_method_149_code 14 = .ok (.putfield 9, 3) := by decide +kernel
theorem d3_17 : decode jdk_42_method_149_code 17 = .ok (.aload_n 0, 1) := by decide +kernel
theorem d3_18 : decode jdk_42_method_149_code 18 = .ok (.ldc 7, 2) := by decide +kernel
theorem d3_20 : decode jdk_42_method_149_code 20 = .ok (.getfield 15, 3) := by decide +kernel
theorem d3_23 : decode jdk_42_method_149_code 23 = .ok (.putfield 15, 3) := by decide +kernel
theorem d3_26 : decode jdk_42_method_149_code 26 = .ok (.return_, 1) := by decide +kernel
theorem pn_java_lang_String : plainName "java/lang/String" = true := by first | (simp [plainName, overriddenIn]; done) | decide +kernel
theorem d4_0 : decode jdk_42_method_3_code 0 = .ok (.aload_n 0, 1) := by decide +kernel
theorem d4_1 : decode jdk_42_method_3_code 1 = .ok (.aload_n 1, 1) := by decide +kernel
theorem d4_2 : decode jdk_42_method_3_code 2 = .ok (.iconst 0, 1) := by decide +kernel
theorem d4_3 : decode jdk_42_method_3_code 3 = .ok (.aload_n 1, 1) := by decide +kernel
theorem d4_4 : decode jdk_42_method_3_code 4 = .ok (.arraylength, 1) := by decide +kernel
theorem d4_5 : decode jdk_42_method_3_code 5 = .ok (.aconst_null, 1) := by decide +kernel
theorem d4_6 : decode jdk_42_method_3_code 6 = .ok (.invokespecial 27, 3) := by decide +kernel
theorem pd__28__5b_CIILjava_2f_lang_2f_Void_3b__29_V : parseMethodDescriptor "([CIILjava/lang/Void;)V" = some ⟨[(.array .char), .int, .int, (.object "java/lang/Void")], none⟩ := by decide +kernel
theorem d4_9 : decode jdk_42_method_3_code 9 = .ok (.return_, 1) := by decide +kernel
theorem d5_0 : decode jdk_43_method_3_code 0 = .ok (.iload_n 0, 1) := by decide +kernel
theorem d5_1 : decode jdk_43_method_3_code 1 = .ok (.sipush 255, 3) := by decide +kernel
theorem d5_4 : decode jdk_43_method_3_code 4 = .ok (.if_icmp .gt 7, 3) := by decide +kernel
theorem d5_7 : decode jdk_43_method_3_code 7 = .ok (.iconst 1, 1) := by decide +kernel
theorem d5_8 : decode jdk_43_method_3_code 8 = .ok (.goto 4, 3) := by decide +kernel
theorem d5_12 : decode jdk_43_method_3_code 12 = .ok (.ireturn, 1) := by decide +kernel
theorem pn_java_lang_StringLatin1 : plainName "java/lang/StringLatin1" = true := by first | (simp [plainName, overriddenIn]; done) | decide +kernel
theorem d6_0 : decode jdk_43_method_46_code 0 = .ok (.iconst 1, 1) := by decide +kernel
theorem d6_1 : decode jdk_43_method_46_code 1 = .ok (.newarray .byte, 2) := by decide +kernel
theorem d6_3 : decode jdk_43_method_46_code 3 = .ok (.dup, 1) := by decide +kernel
theorem d6_4 : decode jdk_43_method_46_code 4 = .ok (.iconst 0, 1) := by decide +kernel
theorem d6_5 : decode jdk_43_method_46_code 5 = .ok (.iload_n 0, 1) := by decide +kernel
theorem d6_6 : decode jdk_43_method_46_code 6 = .ok (.i2b, 1) := by decide +kernel
theorem d6_7 : decode jdk_43_method_46_code 7 = .ok (.bastore, 1) := by decide +kernel
theorem d6_8 : decode jdk_43_method_46_code 8 = .ok (.areturn, 1) := by decide +kernel
theorem d7_0 : decode jdk_42_method_151_code 0 = .ok (.aload_n 0, 1) := by decide +kernel
theorem d7_1 : decode jdk_42_method_151_code 1 = .ok (.invokespecial 1, 3) := by decide +kernel
theorem d7_4 : decode jdk_42_method_151_code 4 = .ok (.aload_n 0, 1) := by decide +kernel
theorem d7_5 : decode jdk_42_method_151_code 5 = .ok (.aload_n 1, 1) := by decide +kernel
theorem d7_6 : decode jdk_42_method_151_code 6 = .ok (.putfield 9, 3) := by decide +kernel
theorem d7_9 : decode jdk_42_method_151_code 9 = .ok (.aload_n 0, 1) := by decide +kernel
theorem d7_10 : decode jdk_42_method_151_code 10 = .ok (.iload_n 2, 1) := by decide +kernel
theorem d7_11 : decode jdk_42_method_151_code 11 = .ok (.putfield 15, 3) := by decide +kernel
theorem d7_14 : decode jdk_42_method_151_code 14 = .ok (.return_, 1) := by decide +kernel
theorem d8_0 : decode jdk_42_method_139_code 0 = .ok (.getstatic 38, 3) := by decide +kernel
theorem d8_3 : decode jdk_42_method_139_code 3 = .ok (.ifCond .eq 23, 3) := by decide +kernel
theorem d8_6 : decode jdk_42_method_139_code 6 = .ok (.iload_n 0, 1) := by decide +kernel
theorem d8_7 : decode jdk_42_method_139_code 7 = .ok (.invokestatic 1015, 3) := by decide +kernel
theorem pd__28_C_29_Z : parseMethodDescriptor "(C)Z" = some ⟨[.char], some .boolean⟩ := by decide +kernel
theorem d8_10 : decode jdk_42_method_139_code 10 = .ok (.ifCond .eq 16, 3) := by decide +kernel
theorem d8_13 : decode jdk_42_method_139_code 13 = .ok (.new 10, 3) := by decide +kernel
theorem d8_16 : decode jdk_42_method_139_code 16 = .ok (.dup, 1) := by decide +kernel
theorem d8_17 : decode jdk_42_method_139_code 17 = .ok (.iload_n 0, 1) := by decide +kernel
theorem d8_18 : decode jdk_42_method_139_code 18 = .ok (.invokestatic 1018, 3) := by decide +kernel
theorem pd__28_C_29__5b_B : parseMethodDescriptor "(C)[B" = some ⟨[.char], some (.array .byte)⟩ := by decide +kernel
theorem d8_21 : decode jdk_42_method_139_code 21 = .ok (.iconst 0, 1) := by decide +kernel
theorem d8_22 : decode jdk_42_method_139_code 22 = .ok (.invokespecial 209, 3) := by decide +kernel
theorem pd__28__5b_BB_29_V : parseMethodDescriptor "([BB)V" = some ⟨[(.array .byte), .byte], none⟩ := by decide +kernel
theorem d8_25 : decode jdk_42_method_139_code 25 = .ok (.areturn, 1) := by decide +kernel
theorem d9_0 : decode jdk_42_method_66_code 0 = .ok (.aload_n 0, 1) := by decide +kernel
theorem d9_1 : decode jdk_42_method_66_code 1 = .ok (.aload_n 1, 1) := by decide +kernel
theorem d9_2 : decode jdk_42_method_66_code 2 = .ok (.if_acmp .ne 5, 3) := by decide +kernel
theorem d9_5 : decode jdk_42_method_66_code 5 = .ok (.iconst 1, 1) := by decide +kernel
theorem d9_6 : decode jdk_42_method_66_code 6 = .ok (.ireturn, 1) := by decide +kernel
theorem d10_0 : decode jdk_42_method_55_code 0 = .ok (.aload_n 0, 1) := by decide +kernel
theorem d10_1 : decode jdk_42_method_55_code 1 = .ok (.getfield 9, 3) := by decide +kernel
theorem d10_4 : decode jdk_42_method_55_code 4 = .ok (.arraylength, 1) := by decide +kernel
theorem d10_5 : decode jdk_42_method_55_code 5 = .ok (.ifCond .ne 7, 3) := by decide +kernel
theorem d10_12 : decode jdk_42_method_55_code 12 = .ok (.iconst 0, 1) := by decide +kernel
theorem d10_13 : decode jdk_42_method_55_code 13 = .ok (.ireturn, 1) := by decide +kernel
theorem d10_8 : decode jdk_42_method_55_code 8 = .ok (.iconst 1, 1) := by decide +kernel
theorem d10_9 : decode jdk_42_method_55_code 9 = .ok (.goto 4, 3) := by decide +kernel
theorem d11_0 : decode prog_31_method_1_code 0 = .ok (.aload_n 0, 1) := by decide +kernel
theorem d11_1 : decode prog_31_method_1_code 1 = .ok (.invokespecial 1, 3) := by decide +kernel
theorem d11_4 : decode prog_31_method_1_code 4 = .ok (.aload_n 0, 1) := by decide +kernel
theorem d11_5 : decode prog_31_method_1_code 5 = .ok (.aload_n 1, 1) := by decide +kernel
theorem d11_6 : decode prog_31_method_1_code 6 = .ok (.putfield 7, 3) := by decide +kernel
theorem d11_9 : decode prog_31_method_1_code 9 = .ok (.aload_n 0, 1) := by decide +kernel
theorem d11_10 : decode prog_31_method_1_code 10 = .ok (.aload_n 2, 1) := by decide +kernel
theorem d11_11 : decode prog_31_method_1_code 11 = .ok (.putfield 13, 3) := by decide +kernel
theorem d11_14 : decode prog_31_method_1_code 14 = .ok (.aload_n 0, 1) := by decide +kernel
theorem d11_15 : decode prog_31_method_1_code 15 = .ok (.lload_n 3, 1) := by decide +kernel
theorem d11_16 : decode prog_31_method_1_code 16 = .ok (.putfield 17, 3) := by decide +kernel
theorem d11_19 : decode prog_31_method_1_code 19 = .ok (.aload_n 0, 1) := by decide +kernel
theorem d11_20 : decode prog_31_method_1_code 20 = .ok (.aload 5, 2) := by decide +kernel
theorem d11_22 : decode prog_31_method_1_code 22 = .ok (.putfield 21, 3) := by decide +kernel
theorem d11_25 : decode prog_31_method_1_code 25 = .ok (.aload_n 0, 1) := by decide +kernel
theorem d11_26 : decode prog_31_method_1_code 26 = .ok (.lload 6, 2) := by decide +kernel
theorem d11_28 : decode prog_31_method_1_code 28 = .ok (.putfield 25, 3) := by decide +kernel
theorem d11_31 : decode prog_31_method_1_code 31 = .ok (.aload_n 0, 1) := by decide +kernel
theorem d11_32 : decode prog_31_method_1_code 32 = .ok (.lload 8, 2) := by decide +kernel
theorem d11_34 : decode prog_31_method_1_code 34 = .ok (.putfield 28, 3) := by decide +kernel
theorem d11_37 : decode prog_31_method_1_code 37 = .ok (.aload_n 0, 1) := by decide +kernel
theorem d11_38 : decode prog_31_method_1_code 38 = .ok (.lload 10, 2) := by decide +kernel
theorem d11_40 : decode prog_31_method_1_code 40 = .ok (.putfield 31, 3) := by decide +kernel
theorem d11_43 : decode prog_31_method_1_code 43 = .ok (.aload_n 0, 1) := by decide +kernel
theorem d11_44 : decode prog_31_method_1_code 44 = .ok (.aload 12, 2) := by decide +kernel
theorem d11_46 : decode prog_31_method_1_code 46 = .ok (.putfield 34, 3) := by decide +kernel
theorem d11_49 : decode prog_31_method_1_code 49 = .ok (.return_, 1) := by decide +kernel
theorem pn_com_example_halysis_halysis_VerifyResult : plainName "com/example/halysis/halysis/VerifyResult" = true := by first | (simp [plainName, overriddenIn]; done) | decide +kernel
theorem d12_0 : decode prog_31_method_6_code 0 = .ok (.aload_n 0, 1) := by decide +kernel
theorem d12_1 : decode prog_31_method_6_code 1 = .ok (.getfield 7, 3) := by decide +kernel
theorem d12_4 : decode prog_31_method_6_code 4 = .ok (.areturn, 1) := by decide +kernel
theorem d13_0 : decode prog_31_method_7_code 0 = .ok (.aload_n 0, 1) := by decide +kernel
theorem d13_1 : decode prog_31_method_7_code 1 = .ok (.getfield 13, 3) := by decide +kernel
theorem d13_4 : decode prog_31_method_7_code 4 = .ok (.areturn, 1) := by decide +kernel
theorem d14_0 : decode prog_31_method_8_code 0 = .ok (.aload_n 0, 1) := by decide +kernel
theorem d14_1 : decode prog_31_method_8_code 1 = .ok (.getfield 17, 3) := by decide +kernel
theorem d14_4 : decode prog_31_method_8_code 4 = .ok (.lreturn, 1) := by decide +kernel
theorem d15_0 : decode prog_31_method_9_code 0 = .ok (.aload_n 0, 1) := by decide +kernel
theorem d15_1 : decode prog_31_method_9_code 1 = .ok (.getfield 21, 3) := by decide +kernel
theorem d15_4 : decode prog_31_method_9_code 4 = .ok (.areturn, 1) := by decide +kernel
theorem d16_0 : decode prog_31_method_10_code 0 = .ok (.aload_n 0, 1) := by decide +kernel
theorem d16_1 : decode prog_31_method_10_code 1 = .ok (.getfield 25, 3) := by decide +kernel
theorem d16_4 : decode prog_31_method_10_code 4 = .ok (.lreturn, 1) := by decide +kernel
theorem d17_0 : decode prog_31_method_11_code 0 = .ok (.aload_n 0, 1) := by decide +kernel
theorem d17_1 : decode prog_31_method_11_code 1 = .ok (.getfield 28, 3) := by decide +kernel
theorem d17_4 : decode prog_31_method_11_code 4 = .ok (.lreturn, 1) := by decide +kernel
theorem d18_0 : decode prog_31_method_12_code 0 = .ok (.aload_n 0, 1) := by decide +kernel
theorem d18_1 : decode prog_31_method_12_code 1 = .ok (.getfield 31, 3) := by decide +kernel
theorem d18_4 : decode prog_31_method_12_code 4 = .ok (.lreturn, 1) := by decide +kernel
theorem d19_0 : decode prog_31_method_13_code 0 = .ok (.aload_n 0, 1) := by decide +kernel
theorem d19_1 : decode prog_31_method_13_code 1 = .ok (.getfield 34, 3) := by decide +kernel
theorem d19_4 : decode prog_31_method_13_code 4 = .ok (.areturn, 1) := by decide +kernel
theorem d20_0 : decode prog_31_method_5_code 0 = .ok (.aload_n 0, 1) := by decide +kernel
theorem d20_1 : decode prog_31_method_5_code 1 = .ok (.getfield 7, 3) := by decide +kernel
theorem d20_4 : decode prog_31_method_5_code 4 = .ok (.ifnonnull 7, 3) := by decide +kernel
theorem d20_11 : decode prog_31_method_5_code 11 = .ok (.iconst 0, 1) := by decide +kernel
theorem d20_12 : decode prog_31_method_5_code 12 = .ok (.ireturn, 1) := by decide +kernel
theorem d21_0 : decode prog_31_method_4_code 0 = .ok (.new 8, 3) := by decide +kernel
theorem d21_3 : decode prog_31_method_4_code 3 = .ok (.dup, 1) := by decide +kernel
theorem d21_4 : decode prog_31_method_4_code 4 = .ok (.getstatic 42, 3) := by decide +kernel
theorem d21_7 : decode prog_31_method_4_code 7 = .ok (.aconst_null, 1) := by decide +kernel
theorem d21_8 : decode prog_31_method_4_code 8 = .ok (.lconst 0, 1) := by decide +kernel
theorem d21_9 : decode prog_31_method_4_code 9 = .ok (.aload_n 2, 1) := by decide +kernel
theorem d21_10 : decode prog_31_method_4_code 10 = .ok (.lload_n 0, 1) := by decide +kernel
theorem d21_11 : decode prog_31_method_4_code 11 = .ok (.lconst 0, 1) := by decide +kernel
theorem d21_12 : decode prog_31_method_4_code 12 = .ok (.lconst 0, 1) := by decide +kernel
theorem d21_13 : decode prog_31_method_4_code 13 = .ok (.ldc 37, 2) := by decide +kernel
theorem d21_15 : decode prog_31_method_4_code 15 = .ok (.invokespecial 39, 3) := by decide +kernel
theorem pd__28_Lcom_2f_example_2f_halysis_2f_halysis_2f_VerifyResult_24_Kind_3b_Ljava_2f_nio_2f_file_2f_Path_3b_JLjava_2f_lang_2f_String_3b_JJJLjava_2f_lang_2f_String_3b__29_V : parseMethodDescriptor "(Lcom/example/halysis/halysis/VerifyResult$Kind;Ljava/nio/file/Path;JLjava/lang/String;JJJLjava/lang/String;)V" = some ⟨[(.object "com/example/halysis/halysis/VerifyResult$Kind"), (.object "java/nio/file/Path"), .long, (.object "java/lang/String"), .long, .long, .long, (.object "java/lang/String")], none⟩ := by decide +kernel
theorem d21_18 : decode prog_31_method_4_code 18 = .ok (.areturn, 1) := by decide +kernel
theorem pd__28_JLjava_2f_lang_2f_String_3b__29_Lcom_2f_example_2f_halysis_2f_halysis_2f_VerifyResult_3b_ : parseMethodDescriptor "(JLjava/lang/String;)Lcom/example/halysis/halysis/VerifyResult;" = some ⟨[.long, (.object "java/lang/String")], some (.object "com/example/halysis/halysis/VerifyResult")⟩ := by decide +kernel
theorem pd__28__29_Z : parseMethodDescriptor "()Z" = some ⟨[], some .boolean⟩ := by decide +kernel
theorem pd__28__29_Lcom_2f_example_2f_halysis_2f_halysis_2f_VerifyResult_24_Kind_3b_ : parseMethodDescriptor "()Lcom/example/halysis/halysis/VerifyResult$Kind;" = some ⟨[], some (.object "com/example/halysis/halysis/VerifyResult$Kind")⟩ := by decide +kernel
theorem pd__28__29_Ljava_2f_nio_2f_file_2f_Path_3b_ : parseMethodDescriptor "()Ljava/nio/file/Path;" = some ⟨[], some (.object "java/nio/file/Path")⟩ := by decide +kernel
theorem pd__28__29_J : parseMethodDescriptor "()J" = some ⟨[], some .long⟩ := by decide +kernel
theorem pd__28__29_Ljava_2f_lang_2f_String_3b_ : parseMethodDescriptor "()Ljava/lang/String;" = some ⟨[], some (.object "java/lang/String")⟩ := by decide +kernel
theorem pd__28_Ljava_2f_lang_2f_Object_3b__29_Z : parseMethodDescriptor "(Ljava/lang/Object;)Z" = some ⟨[(.object "java/lang/Object")], some .boolean⟩ := by decide +kernel
theorem pd__28__5b_C_29_V : parseMethodDescriptor "([C)V" = some ⟨[(.array .char)], none⟩ := by decide +kernel
theorem pd__28_C_29_Ljava_2f_lang_2f_String_3b_ : parseMethodDescriptor "(C)Ljava/lang/String;" = some ⟨[.char], some (.object "java/lang/String")⟩ := by decide +kernel
theorem pn_com_example_halysis_halysis_VerifyResultCheckpointMissingPinLaw : plainName "com/example/halysis/halysis/VerifyResultCheckpointMissingPinLaw" = true := by first | (simp [plainName, overriddenIn]; done) | decide +kernel
set_option maxRecDepth 65536 in
set_option maxHeartbeats 40000000 in
theorem c_cfal {kS : Nat} (B : Base Z a0 kS) {h : Heap} {d : Nat} {n : Int32} {vs : List Value} (Ad : Ary Z h d .byte vs) (hn : n.toInt = vs.length) : Con l Z a0 EL n0 (⟨"java/lang/StringUTF16", "coderFromArrayLen", "([BI)B"⟩ : MethodName) 1 13 0 0 #[.ref d, .int n] h [] (fun v h' => v = some (.int 0) ∧ h = h') := by
  refine Met.con (bytes := jdk_52_method_15_code) (maxL := 2) (ret := (some .byte)) (rm := ({ frames := 0, cells := 0, slots := 0, locals := 0 } : Room)) (Met.of (own := "java/lang/StringUTF16") (nm := "coderFromArrayLen") #[.val (.ref d), .val (.int n)] (ew B) rfl rfl (plainFor_of_name pn_java_lang_StringUTF16) (fun m => by first | (simp [entryFrame, mkF, argsToLocals, Value.category]; done) | rfl) fun K C => ?_) (B.1 _ (List.mem_of_getElem? (i := 25) rfl)) (B.1 _ (List.mem_of_getElem? (i := 17) rfl)) rfl rfl rfl rfl
  refine C.iloadN d0_0 rfl ?_
  refine C.aloadN d0_1 rfl rfl ?_
  refine C.alen (n := n) Ad hn d0_2 ?_
  refine C.isub d0_3 ?_
  refine C.bipush (v := (31 : Int32)) d0_4 (by first | rfl | decide) ?_
  refine C.iushr d0_6 ?_
  refine C.i2b d0_7 ?_
  refine C.topI (show ((n - n).toUInt32 >>> ((31 : Int32) &&& 31).toUInt32).toInt32.toInt8.toInt32 = (0 : Int32) by rw [Int32.sub_self]; decide) ?_
  exact C.ireturn (t := .byte) rfl (by simp) rfl d0_8 (by decide) (by decide) ⟨rfl, rfl⟩
set_option maxRecDepth 65536 in
set_option maxHeartbeats 40000000 in
theorem c_cmp5 {kS : Nat} (B : Base Z a0 kS) {h : Heap} {b d : Nat} {n : Int32} {cs : List Int32} (Ab : Ary Z h b .char (cs.map Value.int)) (Ad : Ary Z h d .byte (List.replicate cs.length (.int 0))) (nbd : b ≠ d) (hn : n.toInt = cs.length) (hp : ∀ c ∈ cs, 0 ≤ c.toInt ∧ c.toInt < 256) : Con l Z a0 EL n0 (⟨"java/lang/StringUTF16", "compress", "([CI[BII)I"⟩ : MethodName) 1 18 0 0 #[.ref b, .int (0 : Int32), .ref d, .int (0 : Int32), .int n] h [d] (fun v h' => v = some (.int n) ∧ Ary Z h' d .byte (cs.map fun c => Value.int (lo8 c))) := by
  refine Met.con (bytes := jdk_52_method_21_code) (maxL := 7) (ret := (some .int)) (rm := ({ frames := 0, cells := 0, slots := 0, locals := 0 } : Room)) (Met.of (own := "java/lang/StringUTF16") (nm := "compress") #[.val (.ref b), .val (.int (0 : Int32)), .val (.ref d), .val (.int (0 : Int32)), .val (.int n), .unset, .unset] (ew B) rfl rfl (plainFor_of_name pn_java_lang_StringUTF16) (fun m => by first | (simp [entryFrame, mkF, argsToLocals, Value.category]; done) | rfl) fun K C => ?_) (B.1 _ (List.mem_of_getElem? (i := 22) rfl)) (B.1 _ (List.mem_of_getElem? (i := 17) rfl)) rfl rfl rfl rfl
  have hlen := Ab.len
  rw [List.length_map] at hlen
  have k255 : (255 : Int32).toInt = 255 := by decide
  refine C.iconst (v := (0 : Int32)) d1_0 (by first | rfl | decide) ?_
  refine C.istore #[.val (.ref b), .val (.int (0 : Int32)), .val (.ref d), .val (.int (0 : Int32)), .val (.int n), .val (.int (0 : Int32)), .unset] d1_1 rfl ?_
  suffices LOOP : ∀ (j k : Nat) (h1 : Heap) (s6 : Slot), j + k = cs.length → One s6 → Ary Z h1 b .char (cs.map Value.int) → Ary Z h1 d .byte ((cs.take k).map (fun c => Value.int (lo8 c)) ++ List.replicate j (.int 0)) → C.W h1 [d] 0 0 (mkF K.m 3 #[.val (.ref b), .val (.int (Int32.ofNat k)), .val (.ref d), .val (.int (Int32.ofNat k)), .val (.int n), .val (.int (Int32.ofNat k)), s6] []) from LOOP cs.length 0 h .unset (by omega) One.u Ab Ad
  intro j
  induction j with
  | zero =>
    intro k h1 s6 hjk h6 Ab Ad
    have ek : (Int32.ofNat k).toInt = k := ofNat_int (by omega)
    refine C.iload d1_3 rfl ?_
    refine C.iload d1_5 rfl ?_
    refine C.icmp_ge 44 d1_7 (by decide) (by decide) (fun q1 => ?_) (fun q1 => ?_)
    · refine C.iload d1_44 rfl ?_
      have ek2 : cs.take k = cs := List.take_of_length_le (by omega)
      rw [ek2] at Ad
      exact C.ireturn (t := .int) rfl (by simp) rfl d1_46 (by decide) (by decide) ⟨rfl, by simpa using Ad⟩
    · exfalso; omega
  | succ j ih =>
    intro k h1 s6 hjk h6 Ab Ad
    have ek : (Int32.ofNat k).toInt = k := ofNat_int (by omega)
    refine C.iload d1_3 rfl ?_
    refine C.iload d1_5 rfl ?_
    refine C.icmp_ge 44 d1_7 (by decide) (by decide) (fun q2 => ?_) (fun q2 => ?_)
    · exfalso; omega
    · obtain ⟨c, hc⟩ : ∃ c, cs[k]? = some c := ⟨_, List.getElem?_eq_getElem (by omega)⟩
      have hcb := hp c (List.mem_of_getElem? hc)
      refine C.aloadN d1_10 rfl rfl ?_
      refine C.iloadN d1_11 rfl ?_
      refine C.caload (x := c) k Ab ek (by simp [hc]) d1_12 ?_
      refine C.istore #[.val (.ref b), .val (.int (Int32.ofNat k)), .val (.ref d), .val (.int (Int32.ofNat k)), .val (.int n), .val (.int (Int32.ofNat k)), .val (.int c)] d1_13 (XS.store1 rfl h6 rfl) ?_
      refine C.iload d1_15 rfl ?_
      refine C.sipush (v := (255 : Int32)) d1_17 (by first | rfl | decide) ?_
      refine C.icmp_le 26 d1_20 (by decide) (by decide) (fun q3 => ?_) (fun q3 => ?_)
      · refine C.aloadN d1_26 rfl rfl ?_
        refine C.iloadN d1_27 rfl ?_
        refine C.iload d1_28 rfl ?_
        refine C.i2b d1_30 ?_
        refine C.bastore k Ad ek (by simp; omega) d1_31 (List.mem_of_getElem? (i := 0) rfl) fun h4 z4 K4 Aw4 => ?_
        show C.W h4 [d] 0 0 (mkF K.m 32 #[.val (.ref b), .val (.int (Int32.ofNat k)), .val (.ref d), .val (.int (Int32.ofNat k)), .val (.int n), .val (.int (Int32.ofNat k)), .val (.int c)] [])
        have A4' : Ary Z h4 d .byte ((cs.take (k + 1)).map (fun c => Value.int (lo8 c)) ++ List.replicate j (.int 0)) := by
          rw [lo8_lo8] at Aw4
          rwa [← fill_step (fun c => Value.int (lo8 c)) (.int 0) hc]
        refine C.iinc (z := (1 : Int32)) #[.val (.ref b), .val (.int ((Int32.ofNat k) + (1 : Int32))), .val (.ref d), .val (.int (Int32.ofNat k)), .val (.int n), .val (.int (Int32.ofNat k)), .val (.int c)] d1_32 rfl (by first | rfl | decide) rfl ?_
        refine C.iinc (z := (1 : Int32)) #[.val (.ref b), .val (.int ((Int32.ofNat k) + (1 : Int32))), .val (.ref d), .val (.int ((Int32.ofNat k) + (1 : Int32))), .val (.int n), .val (.int (Int32.ofNat k)), .val (.int c)] d1_35 rfl (by first | rfl | decide) rfl ?_
        refine C.iinc (z := (1 : Int32)) #[.val (.ref b), .val (.int ((Int32.ofNat k) + (1 : Int32))), .val (.ref d), .val (.int ((Int32.ofNat k) + (1 : Int32))), .val (.int n), .val (.int ((Int32.ofNat k) + (1 : Int32))), .val (.int c)] d1_38 rfl (by first | rfl | decide) rfl ?_
        refine C.goto 3 d1_41 (by decide) (by decide) ?_
        rw [ofNat_succ]
        exact ih (k + 1) h4 _ (by omega) (One.val rfl) (Ab.keep K4 (ninS nbd nin0)) A4'
      · exfalso; omega
set_option maxRecDepth 65536 in
set_option maxHeartbeats 40000000 in
theorem c_cmp3 {kS : Nat} (B : Base Z a0 kS) {h : Heap} {b : Nat} {n : Int32} {cs : List Int32} (Ab : Ary Z h b .char (cs.map Value.int)) (hn : n.toInt = cs.length) (hc : cs.length ≤ 2) (hp : ∀ c ∈ cs, 0 ≤ c.toInt ∧ c.toInt < 256) : Con l Z a0 EL n0 (⟨"java/lang/StringUTF16", "compress", "([CII)[B"⟩ : MethodName) 2 35 1 2 #[.ref b, .int (0 : Int32), .int n] h [] (fun v h' => ∃ d : Nat, v = some (.ref d) ∧ h.size ≤ d ∧ d < h'.size ∧ Ary Z h' d .byte (cs.map fun c => Value.int (lo8 c))) := by
  refine Met.con (bytes := jdk_52_method_16_code) (maxL := 6) (ret := (some (.array .byte))) (rm := ({ frames := 1, cells := 1, slots := 2, locals := 18 } : Room)) (Met.of (own := "java/lang/StringUTF16") (nm := "compress") #[.val (.ref b), .val (.int (0 : Int32)), .val (.int n), .unset, .unset, .unset] (ew B) rfl rfl (plainFor_of_name pn_java_lang_StringUTF16) (fun m => by first | (simp [entryFrame, mkF, argsToLocals, Value.category]; done) | rfl) fun K C => ?_) (B.1 _ (List.mem_of_getElem? (i := 18) rfl)) (B.1 _ (List.mem_of_getElem? (i := 17) rfl)) rfl rfl rfl rfl
  have lb := Ab.lt
  refine C.iloadN d2_0 rfl ?_
  refine C.newarr cs.length 2 (B.1 _ (List.mem_of_getElem? (i := 19) rfl)) d2_1 hn hc (by decide) (by decide) (by decide) fun h1 a2 g1 z1 o1 K1 An1 => ?_
  show C.W h1 [a2] 1 2 (mkF K.m 3 #[.val (.ref b), .val (.int (0 : Int32)), .val (.int n), .unset, .unset, .unset] [.ref a2])
  refine C.astoreN #[.val (.ref b), .val (.int (0 : Int32)), .val (.int n), .val (.ref a2), .unset, .unset] d2_3 rfl rfl ?_
  refine C.aloadN d2_4 rfl rfl ?_
  refine C.iloadN d2_5 rfl ?_
  refine C.aloadN d2_6 rfl rfl ?_
  refine C.iconst (v := (0 : Int32)) d2_7 (by first | rfl | decide) ?_
  refine C.iloadN d2_8 rfl ?_
  have Ab_3 := (Ab.keep K1 nin0)
  refine C.callS [.ref b, .int (0 : Int32), .ref a2, .int (0 : Int32), .int n] [] 0 (B.1 _ (List.mem_of_getElem? (i := 20) rfl)) (B.1 _ (List.mem_of_getElem? (i := 21) rfl)) (B.1 _ (List.mem_of_getElem? (i := 17) rfl)) (B.1 _ (List.mem_of_getElem? (i := 22) rfl)) (by decide) pd__28__5b_CI_5b_BII_29_I rfl (c_cmp5 B Ab_3 An1 (neA (by omega)) hn hp) d2_9 rfl rfl rfl (by decide) (by decide) (by decide) (by decide) (allS (List.mem_of_getElem? (i := 0) rfl) all0) fun v4 h4 z4 K4 q4 => ?_
  obtain ⟨rfl, A4⟩ := q4
  show C.W h4 [a2] 1 2 (mkF K.m 12 #[.val (.ref b), .val (.int (0 : Int32)), .val (.int n), .val (.ref a2), .unset, .unset] [.int n])
  refine C.istore #[.val (.ref b), .val (.int (0 : Int32)), .val (.int n), .val (.ref a2), .val (.int n), .unset] d2_12 rfl ?_
  refine C.iload d2_14 rfl ?_
  refine C.iloadN d2_16 rfl ?_
  refine C.icmp_eq 57 d2_17 (by decide) (by decide) (fun q5 => ?_) (fun q5 => ?_)
  · refine C.aloadN d2_57 rfl rfl ?_
    exact C.areturn rfl rfl rfl d2_58 (by decide) (by decide) ⟨a2, rfl, by omega, by omega, A4⟩
  · exfalso; exact absurd rfl q5
set_option maxRecDepth 65536 in
set_option maxHeartbeats 40000000 in
theorem c_init4 {kS : Nat} (B : Base Z a0 kS) {h : Heap} {x b : Nat} {n : Int32} {cs : List Int32} {v0 c0 : Value} (Ex : Exa Z h x "java/lang/String") (Fv : Fld Z h x "java/lang/String" "value" "[B" v0) (Fc : Fld Z h x "java/lang/String" "coder" "B" c0) (Ab : Ary Z h b .char (cs.map Value.int)) (hn : n.toInt = cs.length) (hc : cs.length ≤ 2) (hp : ∀ c ∈ cs, 0 ≤ c.toInt ∧ c.toInt < 256) : Con l Z a0 EL n0 (⟨"java/lang/String", "<init>", "([CIILjava/lang/Void;)V"⟩ : MethodName) 3 52 4 8 #[.ref x, .ref b, .int (0 : Int32), .int n, .null] h [x] (fun v h' => v = none ∧ Str Z h' h'.size x cs) := by
  refine Met.con (bytes := jdk_42_method_149_code) (maxL := 6) (ret := none) (rm := ({ frames := 2, cells := 4, slots := 8, locals := 35 } : Room)) (Met.of (own := "java/lang/String") (nm := "<init>") #[.val (.ref x), .val (.ref b), .val (.int (0 : Int32)), .val (.int n), .val .null, .unset] (ew B) rfl rfl (plainFor_of_name pn_java_lang_String) (fun m => by first | (simp [entryFrame, mkF, argsToLocals, Value.category]; done) | rfl) fun K C => ?_) (B.1 _ (List.mem_of_getElem? (i := 10) rfl)) (B.1 _ (List.mem_of_getElem? (i := 3) rfl)) rfl rfl rfl rfl
  obtain ⟨zc, Sc, hzc⟩ := B.2.1
  have lx := exaLt Ex
  have lb := Ab.lt
  refine C.aloadN d3_0 rfl rfl ?_
  refine C.initO 0 (B.1 _ (List.mem_of_getElem? (i := 11) rfl)) (B.1 _ (List.mem_of_getElem? (i := 12) rfl)) (B.1 _ (List.mem_of_getElem? (i := 13) rfl)) d3_1 rfl rfl (by decide) (by decide) ?_
  show C.W h [x] 0 0 (mkF K.m 4 #[.val (.ref x), .val (.ref b), .val (.int (0 : Int32)), .val (.int n), .val .null, .unset] [])
  refine C.iloadN d3_4 rfl ?_
  refine C.ifc_ne 27 d3_5 (by decide) (by decide) (fun q1 => ?_) (fun q1 => ?_)
  · refine C.getS (B.1 _ (List.mem_of_getElem? (i := 14) rfl)) Via.refl Sc d3_27 ?_
    refine C.ifc_eq 58 d3_30 (by decide) (by decide) (fun q2 => ?_) (fun q2 => ?_)
    · exfalso; exact hzc (Int32.toInt_inj.mp q2)
    · refine C.aloadN d3_33 rfl rfl ?_
      refine C.iloadN d3_34 rfl ?_
      refine C.iloadN d3_35 rfl ?_
      refine C.callS [.ref b, .int (0 : Int32), .int n] [] 0 (B.1 _ (List.mem_of_getElem? (i := 15) rfl)) (B.1 _ (List.mem_of_getElem? (i := 16) rfl)) (B.1 _ (List.mem_of_getElem? (i := 17) rfl)) (B.1 _ (List.mem_of_getElem? (i := 18) rfl)) (by decide) pd__28__5b_CII_29__5b_B rfl (c_cmp3 B Ab hn hc hp) d3_36 rfl rfl rfl (by decide) (by decide) (by decide) (by decide) all0 fun v3 h3 z3 K3 q3 => ?_
      obtain ⟨d3, rfl, ld3, lt3, A3⟩ := q3
      show C.W h3 [x] 1 2 (mkF K.m 39 #[.val (.ref x), .val (.ref b), .val (.int (0 : Int32)), .val (.int n), .val .null, .unset] [.ref d3])
      refine C.astore #[.val (.ref x), .val (.ref b), .val (.int (0 : Int32)), .val (.int n), .val .null, .val (.ref d3)] d3_39 rfl rfl ?_
      refine C.aloadN d3_41 rfl rfl ?_
      refine C.aload d3_42 rfl rfl ?_
      refine C.iloadN d3_44 rfl ?_
      refine C.callS [.ref d3, .int n] [.ref x] 1 (B.1 _ (List.mem_of_getElem? (i := 23) rfl)) (B.1 _ (List.mem_of_getElem? (i := 24) rfl)) (B.1 _ (List.mem_of_getElem? (i := 17) rfl)) (B.1 _ (List.mem_of_getElem? (i := 25) rfl)) (by decide) pd__28__5b_BI_29_B rfl (c_cfal B A3 (by simpa using hn)) d3_45 rfl rfl rfl (by decide) (by decide) (by decide) (by decide) all0 fun v4 h4 z4 K4 q4 => ?_
      obtain ⟨rfl, rfl⟩ := q4
      show C.W h3 [x] 1 2 (mkF K.m 48 #[.val (.ref x), .val (.ref b), .val (.int (0 : Int32)), .val (.int n), .val .null, .val (.ref d3)] [.int (0 : Int32), .ref x])
      have Fc_5 := (Fc.keep K3 nin0)
      have Ex_6 := (Ex.keep K3)
      have Fv_7 := (Fv.keep K3 nin0)
      refine C.putF (host := "") (Or.inl (B.1 _ (List.mem_of_getElem? (i := 26) rfl))) Via.refl Fc_5 Ex_6 (Or.inr ⟨(B.1 _ (List.mem_of_getElem? (i := 27) rfl)), rfl, rfl⟩) (B.1 _ (List.mem_of_getElem? (i := 2) rfl)) (ty := .byte) (by decide) rfl rfl d3_48 (List.mem_of_getElem? (i := 0) rfl) fun h8 z8 K8 Ew8 Fw8 Gw8 => ?_
      have Fv_9 := Gw8 (slot_ne (Or.inr (B.1 _ (List.mem_of_getElem? (i := 29) rfl))) (Or.inr (B.1 _ (List.mem_of_getElem? (i := 27) rfl))) (by decide) (t := (.array .byte)) (t' := .byte) (by decide) (by decide)) Fv_7
      show C.W h8 [x] 1 2 (mkF K.m 51 #[.val (.ref x), .val (.ref b), .val (.int (0 : Int32)), .val (.int n), .val .null, .val (.ref d3)] [])
      refine C.aloadN d3_51 rfl rfl ?_
      refine C.aload d3_52 rfl rfl ?_
      refine C.putF (host := "") (Or.inl (B.1 _ (List.mem_of_getElem? (i := 28) rfl))) Via.refl Fv_9 Ew8 (Or.inr ⟨(B.1 _ (List.mem_of_getElem? (i := 29) rfl)), rfl, rfl⟩) (B.1 _ (List.mem_of_getElem? (i := 2) rfl)) (ty := (.array .byte)) (by decide) rfl rfl d3_54 (List.mem_of_getElem? (i := 0) rfl) fun h10 z10 K10 Ew10 Fw10 Gw10 => ?_
      have Fc_11 := Gw10 (slot_ne (Or.inr (B.1 _ (List.mem_of_getElem? (i := 27) rfl))) (Or.inr (B.1 _ (List.mem_of_getElem? (i := 29) rfl))) (by decide) (t := .byte) (t' := (.array .byte)) (by decide) (by decide)) Fw8
      show C.W h10 [x] 1 2 (mkF K.m 57 #[.val (.ref x), .val (.ref b), .val (.int (0 : Int32)), .val (.int n), .val .null, .val (.ref d3)] [])
      have A3_12 := ((A3.keep K8 (ninS (neA (by omega)) nin0)).keep K10 (ninS (neA (by omega)) nin0))
      exact C.return_ rfl d3_57 (by decide) (by decide) ⟨rfl, Ew10, by omega, Nat.le_refl _, d3, 0, _, by omega, Fw10, Fc_11, A3_12, Or.inl ⟨rfl, rfl, hp⟩⟩
  · have ecs : cs = [] := List.length_eq_zero_iff.mp (by omega)
    refine C.aloadN d3_8 rfl rfl ?_
    refine C.ldcC (vs := []) (z := 0) 0 (B.1 _ (List.mem_of_getElem? (i := 118) rfl)) (sA B) (by simp [EL]) ⟨by decide, by first | rfl | decide⟩ (by decide) (by first | rfl | decide) (by decide) (by decide) d3_9 (by decide) (by decide) fun h13 s13 t13 z13 K13 ls13 lt13 ne13 Es13 Cs13 Fs13 As13 => ?_
    have nt13_x := (ne13 x (List.mem_of_getElem? (i := 0) rfl)).2
    have ns13_x := (ne13 x (List.mem_of_getElem? (i := 0) rfl)).1
    show C.W h13 [x] 2 4 (mkF K.m 11 #[.val (.ref x), .val (.ref b), .val (.int (0 : Int32)), .val (.int n), .val .null, .unset] [.ref s13, .ref x])
    refine C.getF (host := "") (Or.inl (B.1 _ (List.mem_of_getElem? (i := 28) rfl))) Via.refl Fs13 d3_11 ?_
    have Fv_14 := (Fv.keep K13 nin0)
    have Ex_15 := (Ex.keep K13)
    have Fc_16 := (Fc.keep K13 nin0)
    refine C.putF (host := "") (Or.inl (B.1 _ (List.mem_of_getElem? (i := 28) rfl))) Via.refl Fv_14 Ex_15 (Or.inr ⟨(B.1 _ (List.mem_of_getElem? (i := 29) rfl)), rfl, rfl⟩) (B.1 _ (List.mem_of_getElem? (i := 2) rfl)) (ty := (.array .byte)) (by decide) rfl rfl d3_14 (List.mem_of_getElem? (i := 0) rfl) fun h17 z17 K17 Ew17 Fw17 Gw17 => ?_
    have Fc_18 := Gw17 (slot_ne (Or.inr (B.1 _ (List.mem_of_getElem? (i := 27) rfl))) (Or.inr (B.1 _ (List.mem_of_getElem? (i := 29) rfl))) (by decide) (t := .byte) (t' := (.array .byte)) (by decide) (by decide)) Fc_16
    show C.W h17 [x] 2 4 (mkF K.m 17 #[.val (.ref x), .val (.ref b), .val (.int (0 : Int32)), .val (.int n), .val .null, .unset] [])
    refine C.aloadN d3_17 rfl rfl ?_
    refine C.ldcC (vs := []) (z := 0) 0 (B.1 _ (List.mem_of_getElem? (i := 118) rfl)) (sA B) (by simp [EL]) ⟨by decide, by first | rfl | decide⟩ (by decide) (by first | rfl | decide) (by decide) (by decide) d3_18 (by decide) (by decide) fun h19 s19 t19 z19 K19 ls19 lt19 ne19 Es19 Cs19 Fs19 As19 => ?_
    have nt19_x := (ne19 x (List.mem_of_getElem? (i := 0) rfl)).2
    have ns19_x := (ne19 x (List.mem_of_getElem? (i := 0) rfl)).1
    show C.W h19 [x] 4 8 (mkF K.m 20 #[.val (.ref x), .val (.ref b), .val (.int (0 : Int32)), .val (.int n), .val .null, .unset] [.ref s19, .ref x])
    refine C.getF (host := "") (Or.inl (B.1 _ (List.mem_of_getElem? (i := 26) rfl))) Via.refl Cs19 d3_20 ?_
    have Fc_20 := (Fc_18.keep K19 nin0)
    have Ex_21 := (Ew17.keep K19)
    have Fv_22 := (Fw17.keep K19 nin0)
    refine C.putF (host := "") (Or.inl (B.1 _ (List.mem_of_getElem? (i := 26) rfl))) Via.refl Fc_20 Ex_21 (Or.inr ⟨(B.1 _ (List.mem_of_getElem? (i := 27) rfl)), rfl, rfl⟩) (B.1 _ (List.mem_of_getElem? (i := 2) rfl)) (ty := .byte) (by decide) rfl rfl d3_23 (List.mem_of_getElem? (i := 0) rfl) fun h23 z23 K23 Ew23 Fw23 Gw23 => ?_
    have Fv_24 := Gw23 (slot_ne (Or.inr (B.1 _ (List.mem_of_getElem? (i := 29) rfl))) (Or.inr (B.1 _ (List.mem_of_getElem? (i := 27) rfl))) (by decide) (t := (.array .byte)) (t' := .byte) (by decide) (by decide)) Fv_22
    show C.W h23 [x] 4 8 (mkF K.m 26 #[.val (.ref x), .val (.ref b), .val (.int (0 : Int32)), .val (.int n), .val .null, .unset] [])
    have As13_25 := (((As13.keep K17 (ninS (neA (by omega)) nin0)).keep K19 nin0).keep K23 (ninS (neA (by omega)) nin0))
    exact C.return_ rfl d3_26 (by decide) (by decide) ⟨rfl, Ew23, by omega, Nat.le_refl _, t13, 0, [], by omega, Fv_24, Fw23, As13_25, Or.inl ⟨rfl, by rw [ecs]; rfl, hp⟩⟩
set_option maxRecDepth 65536 in
set_option maxHeartbeats 40000000 in
theorem c_init1 {kS : Nat} (B : Base Z a0 kS) {h : Heap} {x b : Nat} {cs : List Int32} {v0 c0 : Value} (Ex : Exa Z h x "java/lang/String") (Fv : Fld Z h x "java/lang/String" "value" "[B" v0) (Fc : Fld Z h x "java/lang/String" "coder" "B" c0) (Ab : Ary Z h b .char (cs.map Value.int)) (hc : cs.length ≤ 2) (hp : ∀ c ∈ cs, 0 ≤ c.toInt ∧ c.toInt < 256) : Con l Z a0 EL n0 (⟨"java/lang/String", "<init>", "([C)V"⟩ : MethodName) 4 65 4 8 #[.ref x, .ref b] h [x] (fun v h' => v = none ∧ Str Z h' h'.size x cs) := by
  refine Met.con (bytes := jdk_42_method_3_code) (maxL := 2) (ret := none) (rm := ({ frames := 3, cells := 4, slots := 8, locals := 52 } : Room)) (Met.of (own := "java/lang/String") (nm := "<init>") #[.val (.ref x), .val (.ref b)] (ew B) rfl rfl (plainFor_of_name pn_java_lang_String) (fun m => by first | (simp [entryFrame, mkF, argsToLocals, Value.category]; done) | rfl) fun K C => ?_) (B.1 _ (List.mem_of_getElem? (i := 6) rfl)) (B.1 _ (List.mem_of_getElem? (i := 3) rfl)) rfl rfl rfl rfl
  have hn : (Int32.ofNat cs.length).toInt = cs.length := ofNat_int (by omega)
  refine C.aloadN d4_0 rfl rfl ?_
  refine C.aloadN d4_1 rfl rfl ?_
  refine C.iconst (v := (0 : Int32)) d4_2 (by first | rfl | decide) ?_
  refine C.aloadN d4_3 rfl rfl ?_
  refine C.alen (n := (Int32.ofNat cs.length)) Ab (by simpa using hn) d4_4 ?_
  refine C.aconstNull d4_5 ?_
  refine C.callN x [.ref b, .int (0 : Int32), .int (Int32.ofNat cs.length), .null] [] 0 (B.1 _ (List.mem_of_getElem? (i := 7) rfl)) (B.1 _ (List.mem_of_getElem? (i := 8) rfl)) (B.1 _ (List.mem_of_getElem? (i := 10) rfl)) rfl (by decide) pd__28__5b_CIILjava_2f_lang_2f_Void_3b__29_V rfl (c_init4 B Ex Fv Fc Ab hn hc hp) d4_6 rfl rfl rfl (by decide) (by decide) (by decide) (by decide) (allS (List.mem_of_getElem? (i := 0) rfl) all0) fun v1 h1 z1 K1 q1 => ?_
  obtain ⟨rfl, S1⟩ := q1
  show C.W h1 [x] 4 8 (mkF K.m 9 #[.val (.ref x), .val (.ref b)] [])
  exact C.return_ rfl d4_9 (by decide) (by decide) ⟨rfl, S1⟩
set_option maxRecDepth 65536 in
set_option maxHeartbeats 40000000 in
theorem c_canenc {kS : Nat} (B : Base Z a0 kS) {h : Heap} {c : Int32} (hc : 0 ≤ c.toInt ∧ c.toInt < 256) : Con l Z a0 EL n0 (⟨"java/lang/StringLatin1", "canEncode", "(C)Z"⟩ : MethodName) 1 12 0 0 #[.int c] h [] (fun v h' => v = some (.int 1) ∧ h = h') := by
  refine Met.con (bytes := jdk_43_method_3_code) (maxL := 1) (ret := (some .boolean)) (rm := ({ frames := 0, cells := 0, slots := 0, locals := 0 } : Room)) (Met.of (own := "java/lang/StringLatin1") (nm := "canEncode") #[.val (.int c)] (ew B) rfl rfl (plainFor_of_name pn_java_lang_StringLatin1) (fun m => by first | (simp [entryFrame, mkF, argsToLocals, Value.category]; done) | rfl) fun K C => ?_) (B.1 _ (List.mem_of_getElem? (i := 125) rfl)) (B.1 _ (List.mem_of_getElem? (i := 124) rfl)) rfl rfl rfl rfl
  have k255 : (255 : Int32).toInt = 255 := by decide
  refine C.iloadN d5_0 rfl ?_
  refine C.sipush (v := (255 : Int32)) d5_1 (by first | rfl | decide) ?_
  refine C.icmp_gt 11 d5_4 (by decide) (by decide) (fun q1 => ?_) (fun q1 => ?_)
  · exfalso; omega
  · refine C.iconst (v := (1 : Int32)) d5_7 (by first | rfl | decide) ?_
    refine C.goto 12 d5_8 (by decide) (by decide) ?_
    exact C.ireturn (t := .boolean) rfl (by simp) rfl d5_12 (by decide) (by decide) ⟨rfl, rfl⟩
set_option maxRecDepth 65536 in
set_option maxHeartbeats 40000000 in
theorem c_l1tob {kS : Nat} (B : Base Z a0 kS) {h : Heap} {c : Int32} : Con l Z a0 EL n0 (⟨"java/lang/StringLatin1", "toBytes", "(C)[B"⟩ : MethodName) 1 12 1 1 #[.int c] h [] (fun v h' => ∃ d : Nat, v = some (.ref d) ∧ h.size ≤ d ∧ d < h'.size ∧ Ary Z h' d .byte [.int (lo8 c)]) := by
  refine Met.con (bytes := jdk_43_method_46_code) (maxL := 1) (ret := (some (.array .byte))) (rm := ({ frames := 0, cells := 1, slots := 1, locals := 0 } : Room)) (Met.of (own := "java/lang/StringLatin1") (nm := "toBytes") #[.val (.int c)] (ew B) rfl rfl (plainFor_of_name pn_java_lang_StringLatin1) (fun m => by first | (simp [entryFrame, mkF, argsToLocals, Value.category]; done) | rfl) fun K C => ?_) (B.1 _ (List.mem_of_getElem? (i := 129) rfl)) (B.1 _ (List.mem_of_getElem? (i := 124) rfl)) rfl rfl rfl rfl
  refine C.iconst (v := (1 : Int32)) d6_0 (by first | rfl | decide) ?_
  refine C.newarr 1 1 (B.1 _ (List.mem_of_getElem? (i := 19) rfl)) d6_1 (by first | rfl | decide) (by decide) (by decide) (by decide) (by decide) fun h1 a2 g1 z1 o1 K1 An1 => ?_
  have An1 : Ary Z h1 a2 .byte [.int 0] := An1
  show C.W h1 [a2] 1 1 (mkF K.m 3 #[.val (.int c)] [.ref a2])
  refine C.dup rfl d6_3 ?_
  refine C.iconst (v := (0 : Int32)) d6_4 (by first | rfl | decide) ?_
  refine C.iloadN d6_5 rfl ?_
  refine C.i2b d6_6 ?_
  refine C.bastore 0 An1 (by first | rfl | decide) (Nat.le_of_ble_eq_true rfl) d6_7 (List.mem_of_getElem? (i := 0) rfl) fun h3 z3 K3 Aw3 => ?_
  have Aw3 : Ary Z h3 a2 .byte [.int c.toInt8.toInt32.toInt8.toInt32] := Aw3
  show C.W h3 [a2] 1 1 (mkF K.m 8 #[.val (.int c)] [.ref a2])
  rw [lo8_lo8] at Aw3
  exact C.areturn rfl rfl rfl d6_8 (by decide) (by decide) ⟨a2, rfl, by omega, by omega, Aw3⟩
set_option maxRecDepth 65536 in
set_option maxHeartbeats 40000000 in
theorem c_initBB {kS : Nat} (B : Base Z a0 kS) {h : Heap} {x d : Nat} {cd : Int32} {v0 c0 : Value} (Ex : Exa Z h x "java/lang/String") (Fv : Fld Z h x "java/lang/String" "value" "[B" v0) (Fc : Fld Z h x "java/lang/String" "coder" "B" c0) (hcd : cd = 0 ∨ cd = 1) : Con l Z a0 EL n0 (⟨"java/lang/String", "<init>", "([BB)V"⟩ : MethodName) 2 26 0 0 #[.ref x, .ref d, .int cd] h [x] (fun v h' => v = none ∧ Exa Z h' x "java/lang/String" ∧ Fld Z h' x "java/lang/String" "value" "[B" (.ref d) ∧ Fld Z h' x "java/lang/String" "coder" "B" (.int cd)) := by
  refine Met.con (bytes := jdk_42_method_151_code) (maxL := 3) (ret := none) (rm := ({ frames := 1, cells := 0, slots := 0, locals := 12 } : Room)) (Met.of (own := "java/lang/String") (nm := "<init>") #[.val (.ref x), .val (.ref d), .val (.int cd)] (ew B) rfl rfl (plainFor_of_name pn_java_lang_String) (fun m => by first | (simp [entryFrame, mkF, argsToLocals, Value.category]; done) | rfl) fun K C => ?_) (B.1 _ (List.mem_of_getElem? (i := 132) rfl)) (B.1 _ (List.mem_of_getElem? (i := 3) rfl)) rfl rfl rfl rfl
  refine C.aloadN d7_0 rfl rfl ?_
  refine C.initO 0 (B.1 _ (List.mem_of_getElem? (i := 11) rfl)) (B.1 _ (List.mem_of_getElem? (i := 12) rfl)) (B.1 _ (List.mem_of_getElem? (i := 13) rfl)) d7_1 rfl rfl (by decide) (by decide) ?_
  show C.W h [x] 0 0 (mkF K.m 4 #[.val (.ref x), .val (.ref d), .val (.int cd)] [])
  refine C.aloadN d7_4 rfl rfl ?_
  refine C.aloadN d7_5 rfl rfl ?_
  refine C.putF (host := "") (Or.inl (B.1 _ (List.mem_of_getElem? (i := 28) rfl))) Via.refl Fv Ex (Or.inr ⟨(B.1 _ (List.mem_of_getElem? (i := 29) rfl)), rfl, rfl⟩) (B.1 _ (List.mem_of_getElem? (i := 2) rfl)) (ty := (.array .byte)) (by decide) rfl rfl d7_6 (List.mem_of_getElem? (i := 0) rfl) fun h1 z1 K1 Ew1 Fw1 Gw1 => ?_
  have Fc_2 := Gw1 (slot_ne (Or.inr (B.1 _ (List.mem_of_getElem? (i := 27) rfl))) (Or.inr (B.1 _ (List.mem_of_getElem? (i := 29) rfl))) (by decide) (t := .byte) (t' := (.array .byte)) (by decide) (by decide)) Fc
  show C.W h1 [x] 0 0 (mkF K.m 9 #[.val (.ref x), .val (.ref d), .val (.int cd)] [])
  refine C.aloadN d7_9 rfl rfl ?_
  refine C.iloadN d7_10 rfl ?_
  refine C.putF (host := "") (Or.inl (B.1 _ (List.mem_of_getElem? (i := 26) rfl))) Via.refl Fc_2 Ew1 (Or.inr ⟨(B.1 _ (List.mem_of_getElem? (i := 27) rfl)), rfl, rfl⟩) (B.1 _ (List.mem_of_getElem? (i := 2) rfl)) (ty := .byte) (by decide) (by rcases hcd with rfl | rfl <;> rfl) (by rcases hcd with rfl | rfl <;> rfl) d7_11 (List.mem_of_getElem? (i := 0) rfl) fun h3 z3 K3 Ew3 Fw3 Gw3 => ?_
  have Fv_4 := Gw3 (slot_ne (Or.inr (B.1 _ (List.mem_of_getElem? (i := 29) rfl))) (Or.inr (B.1 _ (List.mem_of_getElem? (i := 27) rfl))) (by decide) (t := (.array .byte)) (t' := .byte) (by decide) (by decide)) Fw1
  show C.W h3 [x] 0 0 (mkF K.m 14 #[.val (.ref x), .val (.ref d), .val (.int cd)] [])
  exact C.return_ rfl d7_14 (by decide) (by decide) ⟨rfl, Ew3, Fv_4, Fw3⟩
set_option maxRecDepth 65536 in
set_option maxHeartbeats 40000000 in
theorem c_valueOf {kS : Nat} (B : Base Z a0 kS) {h : Heap} {c : Int32} (hc : 0 ≤ c.toInt ∧ c.toInt < 256) : Con l Z a0 EL n0 (⟨"java/lang/String", "valueOf", "(C)Ljava/lang/String;"⟩ : MethodName) 3 39 2 5 #[.int c] h [] (fun v h' => ∃ x : Nat, v = some (.ref x) ∧ h.size ≤ x ∧ Str Z h' h'.size x [c]) := by
  refine Met.con (bytes := jdk_42_method_139_code) (maxL := 1) (ret := (some (.object "java/lang/String"))) (rm := ({ frames := 2, cells := 2, slots := 5, locals := 27 } : Room)) (Met.of (own := "java/lang/String") (nm := "valueOf") #[.val (.int c)] (ew B) rfl rfl (plainFor_of_name pn_java_lang_String) (fun m => by first | (simp [entryFrame, mkF, argsToLocals, Value.category]; done) | rfl) fun K C => ?_) (B.1 _ (List.mem_of_getElem? (i := 121) rfl)) (B.1 _ (List.mem_of_getElem? (i := 3) rfl)) rfl rfl rfl rfl
  obtain ⟨zc, Sc, hzc⟩ := B.2.1
  refine C.getS (B.1 _ (List.mem_of_getElem? (i := 14) rfl)) Via.refl Sc d8_0 ?_
  refine C.ifc_eq 26 d8_3 (by decide) (by decide) (fun q1 => ?_) (fun q1 => ?_)
  · exfalso; exact hzc (Int32.toInt_inj.mp q1)
  · refine C.iloadN d8_6 rfl ?_
    refine C.callS [.int c] [] 0 (B.1 _ (List.mem_of_getElem? (i := 122) rfl)) (B.1 _ (List.mem_of_getElem? (i := 123) rfl)) (B.1 _ (List.mem_of_getElem? (i := 124) rfl)) (B.1 _ (List.mem_of_getElem? (i := 125) rfl)) (by decide) pd__28_C_29_Z rfl (c_canenc B hc) d8_7 rfl rfl rfl (by decide) (by decide) (by decide) (by decide) all0 fun v2 h2 z2 K2 q2 => ?_
    obtain ⟨rfl, rfl⟩ := q2
    show C.W h [] 0 0 (mkF K.m 10 #[.val (.int c)] [.int (1 : Int32)])
    refine C.ifc_eq 26 d8_10 (by decide) (by decide) (fun q3 => ?_) (fun q3 => ?_)
    · exfalso; revert q3; decide
    · refine C.new (B.1 _ (List.mem_of_getElem? (i := 126) rfl)) (B.1 _ (List.mem_of_getElem? (i := 2) rfl)) (B.1 _ (List.mem_of_getElem? (i := 3) rfl)) d8_13 (by decide) (by decide) fun h4 a5 g4 z4 o4 K4 En4 Dn4 => ?_
      show C.W h4 [a5] 1 4 (mkF K.m 16 #[.val (.int c)] [.ref a5])
      have Fv : Fld Z h4 a5 "java/lang/String" "value" "[B" (.null) := Dn4 (Or.inr (B.1 _ (List.mem_of_getElem? (i := 29) rfl))) (ty := (.array .byte)) (by decide)
      have Fc : Fld Z h4 a5 "java/lang/String" "coder" "B" (.int 0) := Dn4 (Or.inr (B.1 _ (List.mem_of_getElem? (i := 27) rfl))) (ty := .byte) (by decide)
      refine C.dup rfl d8_16 ?_
      refine C.iloadN d8_17 rfl ?_
      refine C.callS [.int c] [.ref a5, .ref a5] 2 (B.1 _ (List.mem_of_getElem? (i := 127) rfl)) (B.1 _ (List.mem_of_getElem? (i := 128) rfl)) (B.1 _ (List.mem_of_getElem? (i := 124) rfl)) (B.1 _ (List.mem_of_getElem? (i := 129) rfl)) (by decide) pd__28_C_29__5b_B rfl (c_l1tob B (c := c)) d8_18 rfl rfl rfl (by decide) (by decide) (by decide) (by decide) all0 fun v6 h6 z6 K6 q6 => ?_
      obtain ⟨d6, rfl, ld6, lt6, A6⟩ := q6
      show C.W h6 [a5] 2 5 (mkF K.m 21 #[.val (.int c)] [.ref d6, .ref a5, .ref a5])
      refine C.iconst (v := (0 : Int32)) d8_21 (by first | rfl | decide) ?_
      have En4_7 := (En4.keep K6)
      have Fv_8 := (Fv.keep K6 nin0)
      have Fc_9 := (Fc.keep K6 nin0)
      refine C.callN a5 [.ref d6, .int (0 : Int32)] [.ref a5] 1 (B.1 _ (List.mem_of_getElem? (i := 130) rfl)) (B.1 _ (List.mem_of_getElem? (i := 131) rfl)) (B.1 _ (List.mem_of_getElem? (i := 132) rfl)) rfl (by decide) pd__28__5b_BB_29_V rfl (c_initBB B En4_7 Fv_8 Fc_9 (Or.inl rfl)) d8_22 rfl rfl rfl (by decide) (by decide) (by decide) (by decide) (allS (List.mem_of_getElem? (i := 0) rfl) all0) fun v10 h10 z10 K10 q10 => ?_
      obtain ⟨rfl, E10, V10, C10⟩ := q10
      show C.W h10 [a5] 2 5 (mkF K.m 25 #[.val (.int c)] [.ref a5])
      have A6_11 := (A6.keep K10 (ninS (neA (by omega)) nin0))
      exact C.areturn rfl rfl rfl d8_25 (by decide) (by decide) ⟨a5, rfl, by omega, E10, by omega, Nat.le_refl _, d6, 0, _, by omega, V10, C10, A6_11, Or.inl ⟨rfl, rfl, by simpa using hc⟩⟩
set_option maxRecDepth 65536 in
set_option maxHeartbeats 40000000 in
theorem c_eqself {kS : Nat} (B : Base Z a0 kS) {h : Heap} {x : Nat} : Con l Z a0 EL n0 (⟨"java/lang/String", "equals", "(Ljava/lang/Object;)Z"⟩ : MethodName) 1 14 0 0 #[.ref x, .ref x] h [] (fun v h' => v = some (.int 1) ∧ h = h') := by
  refine Met.con (bytes := jdk_42_method_66_code) (maxL := 3) (ret := (some .boolean)) (rm := ({ frames := 0, cells := 0, slots := 0, locals := 0 } : Room)) (Met.of (own := "java/lang/String") (nm := "equals") #[.val (.ref x), .val (.ref x), .unset] (ew B) rfl rfl (plainFor_of_name pn_java_lang_String) (fun m => by first | (simp [entryFrame, mkF, argsToLocals, Value.category]; done) | rfl) fun K C => ?_) (B.1 _ (List.mem_of_getElem? (i := 92) rfl)) (B.1 _ (List.mem_of_getElem? (i := 3) rfl)) rfl rfl rfl rfl
  refine C.aloadN d9_0 rfl rfl ?_
  refine C.aloadN d9_1 rfl rfl ?_
  refine C.acmp 5 true d9_2 rfl rfl (by simp) (by decide) (by decide) ?_
  refine C.iconst (v := (1 : Int32)) d9_5 (by first | rfl | decide) ?_
  exact C.ireturn (t := .boolean) rfl (by simp) rfl d9_6 (by decide) (by decide) ⟨rfl, rfl⟩
set_option maxRecDepth 65536 in
set_option maxHeartbeats 40000000 in
theorem c_isEmpty {kS : Nat} (B : Base Z a0 kS) {h : Heap} {N : Nat} {x : Nat} {cs : List Int32} (S : Str Z h N x cs) : Con l Z a0 EL n0 (⟨"java/lang/String", "isEmpty", "()Z"⟩ : MethodName) 1 12 0 0 #[.ref x] h [] (fun v h' => v = some (.int (if cs = [] then 1 else 0)) ∧ h = h') := by
  refine Met.con (bytes := jdk_42_method_55_code) (maxL := 1) (ret := (some .boolean)) (rm := ({ frames := 0, cells := 0, slots := 0, locals := 0 } : Room)) (Met.of (own := "java/lang/String") (nm := "isEmpty") #[.val (.ref x)] (ew B) rfl rfl (plainFor_of_name pn_java_lang_String) (fun m => by first | (simp [entryFrame, mkF, argsToLocals, Value.category]; done) | rfl) fun K C => ?_) (B.1 _ (List.mem_of_getElem? (i := 117) rfl)) (B.1 _ (List.mem_of_getElem? (i := 3) rfl)) rfl rfl rfl rfl
  obtain ⟨Ex, lx, lN, t, cd, vs, lt, Fv, Fc, At, cod⟩ := S
  have hl := At.len
  have hn : (Int32.ofNat vs.length).toInt = vs.length := ofNat_int hl
  have hv := cod.nil
  refine C.aloadN d10_0 rfl rfl ?_
  refine C.getF (host := "") (Or.inl (B.1 _ (List.mem_of_getElem? (i := 28) rfl))) Via.refl Fv d10_1 ?_
  refine C.alen (n := (Int32.ofNat vs.length)) At hn d10_4 ?_
  refine C.ifc_ne 12 d10_5 (by decide) (by decide) (fun q1 => ?_) (fun q1 => ?_)
  · refine C.iconst (v := (0 : Int32)) d10_12 (by first | rfl | decide) ?_
    have hne : ¬ cs = [] := fun e => by have := hv.mp e; omega
    exact C.ireturn (t := .boolean) rfl (by simp) rfl d10_13 (by decide) (by decide) ⟨by rw [if_neg hne], rfl⟩
  · refine C.iconst (v := (1 : Int32)) d10_8 (by first | rfl | decide) ?_
    refine C.goto 13 d10_9 (by decide) (by decide) ?_
    have heq : cs = [] := hv.mpr (by omega)
    exact C.ireturn (t := .boolean) rfl (by simp) rfl d10_13 (by decide) (by decide) ⟨by rw [if_pos heq], rfl⟩
set_option maxRecDepth 65536 in
set_option maxHeartbeats 40000000 in
theorem c_vinit {kS : Nat} (B : Base Z a0 kS) {h : Heap} {a de k hd : Nat} {li re fs ls : Int64} (Ea : Exa Z h a "com/example/halysis/halysis/VerifyResult") (F0 : Fld Z h a "com/example/halysis/halysis/VerifyResult" "kind" "Lcom/example/halysis/halysis/VerifyResult$Kind;" .null) (F1 : Fld Z h a "com/example/halysis/halysis/VerifyResult" "file" "Ljava/nio/file/Path;" .null) (F2 : Fld Z h a "com/example/halysis/halysis/VerifyResult" "line" "J" (.long 0)) (F3 : Fld Z h a "com/example/halysis/halysis/VerifyResult" "detail" "Ljava/lang/String;" .null) (F4 : Fld Z h a "com/example/halysis/halysis/VerifyResult" "records" "J" (.long 0)) (F5 : Fld Z h a "com/example/halysis/halysis/VerifyResult" "firstSeq" "J" (.long 0)) (F6 : Fld Z h a "com/example/halysis/halysis/VerifyResult" "lastSeq" "J" (.long 0)) (F7 : Fld Z h a "com/example/halysis/halysis/VerifyResult" "head" "Ljava/lang/String;" .null) : Con l Z a0 EL n0 (⟨"com/example/halysis/halysis/VerifyResult", "<init>", "(Lcom/example/halysis/halysis/VerifyResult$Kind;Ljava/nio/file/Path;JLjava/lang/String;JJJLjava/lang/String;)V"⟩ : MethodName) 2 36 0 0 #[.ref a, .ref k, .null, .long li, .ref de, .long re, .long fs, .long ls, .ref hd] h [a] (fun v h' => v = none ∧ Exa Z h' a "com/example/halysis/halysis/VerifyResult" ∧ Fld Z h' a "com/example/halysis/halysis/VerifyResult" "kind" "Lcom/example/halysis/halysis/VerifyResult$Kind;" (.ref k) ∧ Fld Z h' a "com/example/halysis/halysis/VerifyResult" "file" "Ljava/nio/file/Path;" .null ∧ Fld Z h' a "com/example/halysis/halysis/VerifyResult" "line" "J" (.long li) ∧ Fld Z h' a "com/example/halysis/halysis/VerifyResult" "detail" "Ljava/lang/String;" (.ref de) ∧ Fld Z h' a "com/example/halysis/halysis/VerifyResult" "records" "J" (.long re) ∧ Fld Z h' a "com/example/halysis/halysis/VerifyResult" "firstSeq" "J" (.long fs) ∧ Fld Z h' a "com/example/halysis/halysis/VerifyResult" "lastSeq" "J" (.long ls) ∧ Fld Z h' a "com/example/halysis/halysis/VerifyResult" "head" "Ljava/lang/String;" (.ref hd)) := by
  refine Met.con (bytes := prog_31_method_1_code) (maxL := 13) (ret := none) (rm := ({ frames := 1, cells := 0, slots := 0, locals := 12 } : Room)) (Met.of (own := "com/example/halysis/halysis/VerifyResult") (nm := "<init>") #[.val (.ref a), .val (.ref k), .val .null, .val (.long li), .second, .val (.ref de), .val (.long re), .second, .val (.long fs), .second, .val (.long ls), .second, .val (.ref hd)] (ew B) rfl rfl (plainFor_of_name pn_com_example_halysis_halysis_VerifyResult) (fun m => by first | (simp [entryFrame, mkF, argsToLocals, Value.category]; done) | rfl) fun K C => ?_) (B.1 _ (List.mem_of_getElem? (i := 44) rfl)) (B.1 _ (List.mem_of_getElem? (i := 32) rfl)) rfl rfl rfl rfl
  refine C.aloadN d11_0 rfl rfl ?_
  refine C.initO 0 (B.1 _ (List.mem_of_getElem? (i := 45) rfl)) (B.1 _ (List.mem_of_getElem? (i := 12) rfl)) (B.1 _ (List.mem_of_getElem? (i := 13) rfl)) d11_1 rfl rfl (by decide) (by decide) ?_
  show C.W h [a] 0 0 (mkF K.m 4 #[.val (.ref a), .val (.ref k), .val .null, .val (.long li), .second, .val (.ref de), .val (.long re), .second, .val (.long fs), .second, .val (.long ls), .second, .val (.ref hd)] [])
  refine C.aloadN d11_4 rfl rfl ?_
  refine C.aloadN d11_5 rfl rfl ?_
  refine C.putF (host := "") (Or.inl (B.1 _ (List.mem_of_getElem? (i := 46) rfl))) Via.refl F0 Ea (Or.inr ⟨(B.1 _ (List.mem_of_getElem? (i := 47) rfl)), rfl, rfl⟩) (B.1 _ (List.mem_of_getElem? (i := 35) rfl)) (ty := (.object "com/example/halysis/halysis/VerifyResult$Kind")) (by decide) rfl rfl d11_6 (List.mem_of_getElem? (i := 0) rfl) fun h1 z1 K1 Ew1 Fw1 Gw1 => ?_
  have F1_2 := Gw1 (slot_ne (Or.inr (B.1 _ (List.mem_of_getElem? (i := 49) rfl))) (Or.inr (B.1 _ (List.mem_of_getElem? (i := 47) rfl))) (by decide) (t := (.object "java/nio/file/Path")) (t' := (.object "com/example/halysis/halysis/VerifyResult$Kind")) (by decide) (by decide)) F1
  have F2_3 := Gw1 (slot_ne (Or.inr (B.1 _ (List.mem_of_getElem? (i := 51) rfl))) (Or.inr (B.1 _ (List.mem_of_getElem? (i := 47) rfl))) (by decide) (t := .long) (t' := (.object "com/example/halysis/halysis/VerifyResult$Kind")) (by decide) (by decide)) F2
  have F3_4 := Gw1 (slot_ne (Or.inr (B.1 _ (List.mem_of_getElem? (i := 53) rfl))) (Or.inr (B.1 _ (List.mem_of_getElem? (i := 47) rfl))) (by decide) (t := (.object "java/lang/String")) (t' := (.object "com/example/halysis/halysis/VerifyResult$Kind")) (by decide) (by decide)) F3
  have F4_5 := Gw1 (slot_ne (Or.inr (B.1 _ (List.mem_of_getElem? (i := 55) rfl))) (Or.inr (B.1 _ (List.mem_of_getElem? (i := 47) rfl))) (by decide) (t := .long) (t' := (.object "com/example/halysis/halysis/VerifyResult$Kind")) (by decide) (by decide)) F4
  have F5_6 := Gw1 (slot_ne (Or.inr (B.1 _ (List.mem_of_getElem? (i := 57) rfl))) (Or.inr (B.1 _ (List.mem_of_getElem? (i := 47) rfl))) (by decide) (t := .long) (t' := (.object "com/example/halysis/halysis/VerifyResult$Kind")) (by decide) (by decide)) F5
  have F6_7 := Gw1 (slot_ne (Or.inr (B.1 _ (List.mem_of_getElem? (i := 59) rfl))) (Or.inr (B.1 _ (List.mem_of_getElem? (i := 47) rfl))) (by decide) (t := .long) (t' := (.object "com/example/halysis/halysis/VerifyResult$Kind")) (by decide) (by decide)) F6
  have F7_8 := Gw1 (slot_ne (Or.inr (B.1 _ (List.mem_of_getElem? (i := 61) rfl))) (Or.inr (B.1 _ (List.mem_of_getElem? (i := 47) rfl))) (by decide) (t := (.object "java/lang/String")) (t' := (.object "com/example/halysis/halysis/VerifyResult$Kind")) (by decide) (by decide)) F7
  show C.W h1 [a] 0 0 (mkF K.m 9 #[.val (.ref a), .val (.ref k), .val .null, .val (.long li), .second, .val (.ref de), .val (.long re), .second, .val (.long fs), .second, .val (.long ls), .second, .val (.ref hd)] [])
  refine C.aloadN d11_9 rfl rfl ?_
  refine C.aloadN d11_10 rfl rfl ?_
  refine C.putF (host := "") (Or.inl (B.1 _ (List.mem_of_getElem? (i := 48) rfl))) Via.refl F1_2 Ew1 (Or.inr ⟨(B.1 _ (List.mem_of_getElem? (i := 49) rfl)), rfl, rfl⟩) (B.1 _ (List.mem_of_getElem? (i := 35) rfl)) (ty := (.object "java/nio/file/Path")) (by decide) rfl rfl d11_11 (List.mem_of_getElem? (i := 0) rfl) fun h9 z9 K9 Ew9 Fw9 Gw9 => ?_
  have F0_10 := Gw9 (slot_ne (Or.inr (B.1 _ (List.mem_of_getElem? (i := 47) rfl))) (Or.inr (B.1 _ (List.mem_of_getElem? (i := 49) rfl))) (by decide) (t := (.object "com/example/halysis/halysis/VerifyResult$Kind")) (t' := (.object "java/nio/file/Path")) (by decide) (by decide)) Fw1
  have F2_11 := Gw9 (slot_ne (Or.inr (B.1 _ (List.mem_of_getElem? (i := 51) rfl))) (Or.inr (B.1 _ (List.mem_of_getElem? (i := 49) rfl))) (by decide) (t := .long) (t' := (.object "java/nio/file/Path")) (by decide) (by decide)) F2_3
  have F3_12 := Gw9 (slot_ne (Or.inr (B.1 _ (List.mem_of_getElem? (i := 53) rfl))) (Or.inr (B.1 _ (List.mem_of_getElem? (i := 49) rfl))) (by decide) (t := (.object "java/lang/String")) (t' := (.object "java/nio/file/Path")) (by decide) (by decide)) F3_4
  have F4_13 := Gw9 (slot_ne (Or.inr (B.1 _ (List.mem_of_getElem? (i := 55) rfl))) (Or.inr (B.1 _ (List.mem_of_getElem? (i := 49) rfl))) (by decide) (t := .long) (t' := (.object "java/nio/file/Path")) (by decide) (by decide)) F4_5
  have F5_14 := Gw9 (slot_ne (Or.inr (B.1 _ (List.mem_of_getElem? (i := 57) rfl))) (Or.inr (B.1 _ (List.mem_of_getElem? (i := 49) rfl))) (by decide) (t := .long) (t' := (.object "java/nio/file/Path")) (by decide) (by decide)) F5_6
  have F6_15 := Gw9 (slot_ne (Or.inr (B.1 _ (List.mem_of_getElem? (i := 59) rfl))) (Or.inr (B.1 _ (List.mem_of_getElem? (i := 49) rfl))) (by decide) (t := .long) (t' := (.object "java/nio/file/Path")) (by decide) (by decide)) F6_7
  have F7_16 := Gw9 (slot_ne (Or.inr (B.1 _ (List.mem_of_getElem? (i := 61) rfl))) (Or.inr (B.1 _ (List.mem_of_getElem? (i := 49) rfl))) (by decide) (t := (.object "java/lang/String")) (t' := (.object "java/nio/file/Path")) (by decide) (by decide)) F7_8
  show C.W h9 [a] 0 0 (mkF K.m 14 #[.val (.ref a), .val (.ref k), .val .null, .val (.long li), .second, .val (.ref de), .val (.long re), .second, .val (.long fs), .second, .val (.long ls), .second, .val (.ref hd)] [])
  refine C.aloadN d11_14 rfl rfl ?_
  refine C.lloadN d11_15 rfl ?_
  refine C.putF (host := "") (Or.inl (B.1 _ (List.mem_of_getElem? (i := 50) rfl))) Via.refl F2_11 Ew9 (Or.inr ⟨(B.1 _ (List.mem_of_getElem? (i := 51) rfl)), rfl, rfl⟩) (B.1 _ (List.mem_of_getElem? (i := 35) rfl)) (ty := .long) (by decide) rfl rfl d11_16 (List.mem_of_getElem? (i := 0) rfl) fun h17 z17 K17 Ew17 Fw17 Gw17 => ?_
  have F0_18 := Gw17 (slot_ne (Or.inr (B.1 _ (List.mem_of_getElem? (i := 47) rfl))) (Or.inr (B.1 _ (List.mem_of_getElem? (i := 51) rfl))) (by decide) (t := (.object "com/example/halysis/halysis/VerifyResult$Kind")) (t' := .long) (by decide) (by decide)) F0_10
  have F1_19 := Gw17 (slot_ne (Or.inr (B.1 _ (List.mem_of_getElem? (i := 49) rfl))) (Or.inr (B.1 _ (List.mem_of_getElem? (i := 51) rfl))) (by decide) (t := (.object "java/nio/file/Path")) (t' := .long) (by decide) (by decide)) Fw9
  have F3_20 := Gw17 (slot_ne (Or.inr (B.1 _ (List.mem_of_getElem? (i := 53) rfl))) (Or.inr (B.1 _ (List.mem_of_getElem? (i := 51) rfl))) (by decide) (t := (.object "java/lang/String")) (t' := .long) (by decide) (by decide)) F3_12
  have F4_21 := Gw17 (slot_ne (Or.inr (B.1 _ (List.mem_of_getElem? (i := 55) rfl))) (Or.inr (B.1 _ (List.mem_of_getElem? (i := 51) rfl))) (by decide) (t := .long) (t' := .long) (by decide) (by decide)) F4_13
  have F5_22 := Gw17 (slot_ne (Or.inr (B.1 _ (List.mem_of_getElem? (i := 57) rfl))) (Or.inr (B.1 _ (List.mem_of_getElem? (i := 51) rfl))) (by decide) (t := .long) (t' := .long) (by decide) (by decide)) F5_14
  have F6_23 := Gw17 (slot_ne (Or.inr (B.1 _ (List.mem_of_getElem? (i := 59) rfl))) (Or.inr (B.1 _ (List.mem_of_getElem? (i := 51) rfl))) (by decide) (t := .long) (t' := .long) (by decide) (by decide)) F6_15
  have F7_24 := Gw17 (slot_ne (Or.inr (B.1 _ (List.mem_of_getElem? (i := 61) rfl))) (Or.inr (B.1 _ (List.mem_of_getElem? (i := 51) rfl))) (by decide) (t := (.object "java/lang/String")) (t' := .long) (by decide) (by decide)) F7_16
  show C.W h17 [a] 0 0 (mkF K.m 19 #[.val (.ref a), .val (.ref k), .val .null, .val (.long li), .second, .val (.ref de), .val (.long re), .second, .val (.long fs), .second, .val (.long ls), .second, .val (.ref hd)] [])
  refine C.aloadN d11_19 rfl rfl ?_
  refine C.aload d11_20 rfl rfl ?_
  refine C.putF (host := "") (Or.inl (B.1 _ (List.mem_of_getElem? (i := 52) rfl))) Via.refl F3_20 Ew17 (Or.inr ⟨(B.1 _ (List.mem_of_getElem? (i := 53) rfl)), rfl, rfl⟩) (B.1 _ (List.mem_of_getElem? (i := 35) rfl)) (ty := (.object "java/lang/String")) (by decide) rfl rfl d11_22 (List.mem_of_getElem? (i := 0) rfl) fun h25 z25 K25 Ew25 Fw25 Gw25 => ?_
  have F0_26 := Gw25 (slot_ne (Or.inr (B.1 _ (List.mem_of_getElem? (i := 47) rfl))) (Or.inr (B.1 _ (List.mem_of_getElem? (i := 53) rfl))) (by decide) (t := (.object "com/example/halysis/halysis/VerifyResult$Kind")) (t' := (.object "java/lang/String")) (by decide) (by decide)) F0_18
  have F1_27 := Gw25 (slot_ne (Or.inr (B.1 _ (List.mem_of_getElem? (i := 49) rfl))) (Or.inr (B.1 _ (List.mem_of_getElem? (i := 53) rfl))) (by decide) (t := (.object "java/nio/file/Path")) (t' := (.object "java/lang/String")) (by decide) (by decide)) F1_19
  have F2_28 := Gw25 (slot_ne (Or.inr (B.1 _ (List.mem_of_getElem? (i := 51) rfl))) (Or.inr (B.1 _ (List.mem_of_getElem? (i := 53) rfl))) (by decide) (t := .long) (t' := (.object "java/lang/String")) (by decide) (by decide)) Fw17
  have F4_29 := Gw25 (slot_ne (Or.inr (B.1 _ (List.mem_of_getElem? (i := 55) rfl))) (Or.inr (B.1 _ (List.mem_of_getElem? (i := 53) rfl))) (by decide) (t := .long) (t' := (.object "java/lang/String")) (by decide) (by decide)) F4_21
  have F5_30 := Gw25 (slot_ne (Or.inr (B.1 _ (List.mem_of_getElem? (i := 57) rfl))) (Or.inr (B.1 _ (List.mem_of_getElem? (i := 53) rfl))) (by decide) (t := .long) (t' := (.object "java/lang/String")) (by decide) (by decide)) F5_22
  have F6_31 := Gw25 (slot_ne (Or.inr (B.1 _ (List.mem_of_getElem? (i := 59) rfl))) (Or.inr (B.1 _ (List.mem_of_getElem? (i := 53) rfl))) (by decide) (t := .long) (t' := (.object "java/lang/String")) (by decide) (by decide)) F6_23
  have F7_32 := Gw25 (slot_ne (Or.inr (B.1 _ (List.mem_of_getElem? (i := 61) rfl))) (Or.inr (B.1 _ (List.mem_of_getElem? (i := 53) rfl))) (by decide) (t := (.object "java/lang/String")) (t' := (.object "java/lang/String")) (by decide) (by decide)) F7_24
  show C.W h25 [a] 0 0 (mkF K.m 25 #[.val (.ref a), .val (.ref k), .val .null, .val (.long li), .second, .val (.ref de), .val (.long re), .second, .val (.long fs), .second, .val (.long ls), .second, .val (.ref hd)] [])
  refine C.aloadN d11_25 rfl rfl ?_
  refine C.lload d11_26 rfl ?_
  refine C.putF (host := "") (Or.inl (B.1 _ (List.mem_of_getElem? (i := 54) rfl))) Via.refl F4_29 Ew25 (Or.inr ⟨(B.1 _ (List.mem_of_getElem? (i := 55) rfl)), rfl, rfl⟩) (B.1 _ (List.mem_of_getElem? (i := 35) rfl)) (ty := .long) (by decide) rfl rfl d11_28 (List.mem_of_getElem? (i := 0) rfl) fun h33 z33 K33 Ew33 Fw33 Gw33 => ?_
  have F0_34 := Gw33 (slot_ne (Or.inr (B.1 _ (List.mem_of_getElem? (i := 47) rfl))) (Or.inr (B.1 _ (List.mem_of_getElem? (i := 55) rfl))) (by decide) (t := (.object "com/example/halysis/halysis/VerifyResult$Kind")) (t' := .long) (by decide) (by decide)) F0_26
  have F1_35 := Gw33 (slot_ne (Or.inr (B.1 _ (List.mem_of_getElem? (i := 49) rfl))) (Or.inr (B.1 _ (List.mem_of_getElem? (i := 55) rfl))) (by decide) (t := (.object "java/nio/file/Path")) (t' := .long) (by decide) (by decide)) F1_27
  have F2_36 := Gw33 (slot_ne (Or.inr (B.1 _ (List.mem_of_getElem? (i := 51) rfl))) (Or.inr (B.1 _ (List.mem_of_getElem? (i := 55) rfl))) (by decide) (t := .long) (t' := .long) (by decide) (by decide)) F2_28
  have F3_37 := Gw33 (slot_ne (Or.inr (B.1 _ (List.mem_of_getElem? (i := 53) rfl))) (Or.inr (B.1 _ (List.mem_of_getElem? (i := 55) rfl))) (by decide) (t := (.object "java/lang/String")) (t' := .long) (by decide) (by decide)) Fw25
  have F5_38 := Gw33 (slot_ne (Or.inr (B.1 _ (List.mem_of_getElem? (i := 57) rfl))) (Or.inr (B.1 _ (List.mem_of_getElem? (i := 55) rfl))) (by decide) (t := .long) (t' := .long) (by decide) (by decide)) F5_30
  have F6_39 := Gw33 (slot_ne (Or.inr (B.1 _ (List.mem_of_getElem? (i := 59) rfl))) (Or.inr (B.1 _ (List.mem_of_getElem? (i := 55) rfl))) (by decide) (t := .long) (t' := .long) (by decide) (by decide)) F6_31
  have F7_40 := Gw33 (slot_ne (Or.inr (B.1 _ (List.mem_of_getElem? (i := 61) rfl))) (Or.inr (B.1 _ (List.mem_of_getElem? (i := 55) rfl))) (by decide) (t := (.object "java/lang/String")) (t' := .long) (by decide) (by decide)) F7_32
  show C.W h33 [a] 0 0 (mkF K.m 31 #[.val (.ref a), .val (.ref k), .val .null, .val (.long li), .second, .val (.ref de), .val (.long re), .second, .val (.long fs), .second, .val (.long ls), .second, .val (.ref hd)] [])
  refine C.aloadN d11_31 rfl rfl ?_
  refine C.lload d11_32 rfl ?_
  refine C.putF (host := "") (Or.inl (B.1 _ (List.mem_of_getElem? (i := 56) rfl))) Via.refl F5_38 Ew33 (Or.inr ⟨(B.1 _ (List.mem_of_getElem? (i := 57) rfl)), rfl, rfl⟩) (B.1 _ (List.mem_of_getElem? (i := 35) rfl)) (ty := .long) (by decide) rfl rfl d11_34 (List.mem_of_getElem? (i := 0) rfl) fun h41 z41 K41 Ew41 Fw41 Gw41 => ?_
  have F0_42 := Gw41 (slot_ne (Or.inr (B.1 _ (List.mem_of_getElem? (i := 47) rfl))) (Or.inr (B.1 _ (List.mem_of_getElem? (i := 57) rfl))) (by decide) (t := (.object "com/example/halysis/halysis/VerifyResult$Kind")) (t' := .long) (by decide) (by decide)) F0_34
  have F1_43 := Gw41 (slot_ne (Or.inr (B.1 _ (List.mem_of_getElem? (i := 49) rfl))) (Or.inr (B.1 _ (List.mem_of_getElem? (i := 57) rfl))) (by decide) (t := (.object "java/nio/file/Path")) (t' := .long) (by decide) (by decide)) F1_35
  have F2_44 := Gw41 (slot_ne (Or.inr (B.1 _ (List.mem_of_getElem? (i := 51) rfl))) (Or.inr (B.1 _ (List.mem_of_getElem? (i := 57) rfl))) (by decide) (t := .long) (t' := .long) (by decide) (by decide)) F2_36
  have F3_45 := Gw41 (slot_ne (Or.inr (B.1 _ (List.mem_of_getElem? (i := 53) rfl))) (Or.inr (B.1 _ (List.mem_of_getElem? (i := 57) rfl))) (by decide) (t := (.object "java/lang/String")) (t' := .long) (by decide) (by decide)) F3_37
  have F4_46 := Gw41 (slot_ne (Or.inr (B.1 _ (List.mem_of_getElem? (i := 55) rfl))) (Or.inr (B.1 _ (List.mem_of_getElem? (i := 57) rfl))) (by decide) (t := .long) (t' := .long) (by decide) (by decide)) Fw33
  have F6_47 := Gw41 (slot_ne (Or.inr (B.1 _ (List.mem_of_getElem? (i := 59) rfl))) (Or.inr (B.1 _ (List.mem_of_getElem? (i := 57) rfl))) (by decide) (t := .long) (t' := .long) (by decide) (by decide)) F6_39
  have F7_48 := Gw41 (slot_ne (Or.inr (B.1 _ (List.mem_of_getElem? (i := 61) rfl))) (Or.inr (B.1 _ (List.mem_of_getElem? (i := 57) rfl))) (by decide) (t := (.object "java/lang/String")) (t' := .long) (by decide) (by decide)) F7_40
  show C.W h41 [a] 0 0 (mkF K.m 37 #[.val (.ref a), .val (.ref k), .val .null, .val (.long li), .second, .val (.ref de), .val (.long re), .second, .val (.long fs), .second, .val (.long ls), .second, .val (.ref hd)] [])
  refine C.aloadN d11_37 rfl rfl ?_
  refine C.lload d11_38 rfl ?_
  refine C.putF (host := "") (Or.inl (B.1 _ (List.mem_of_getElem? (i := 58) rfl))) Via.refl F6_47 Ew41 (Or.inr ⟨(B.1 _ (List.mem_of_getElem? (i := 59) rfl)), rfl, rfl⟩) (B.1 _ (List.mem_of_getElem? (i := 35) rfl)) (ty := .long) (by decide) rfl rfl d11_40 (List.mem_of_getElem? (i := 0) rfl) fun h49 z49 K49 Ew49 Fw49 Gw49 => ?_
  have F0_50 := Gw49 (slot_ne (Or.inr (B.1 _ (List.mem_of_getElem? (i := 47) rfl))) (Or.inr (B.1 _ (List.mem_of_getElem? (i := 59) rfl))) (by decide) (t := (.object "com/example/halysis/halysis/VerifyResult$Kind")) (t' := .long) (by decide) (by decide)) F0_42
  have F1_51 := Gw49 (slot_ne (Or.inr (B.1 _ (List.mem_of_getElem? (i := 49) rfl))) (Or.inr (B.1 _ (List.mem_of_getElem? (i := 59) rfl))) (by decide) (t := (.object "java/nio/file/Path")) (t' := .long) (by decide) (by decide)) F1_43
  have F2_52 := Gw49 (slot_ne (Or.inr (B.1 _ (List.mem_of_getElem? (i := 51) rfl))) (Or.inr (B.1 _ (List.mem_of_getElem? (i := 59) rfl))) (by decide) (t := .long) (t' := .long) (by decide) (by decide)) F2_44
  have F3_53 := Gw49 (slot_ne (Or.inr (B.1 _ (List.mem_of_getElem? (i := 53) rfl))) (Or.inr (B.1 _ (List.mem_of_getElem? (i := 59) rfl))) (by decide) (t := (.object "java/lang/String")) (t' := .long) (by decide) (by decide)) F3_45
  have F4_54 := Gw49 (slot_ne (Or.inr (B.1 _ (List.mem_of_getElem? (i := 55) rfl))) (Or.inr (B.1 _ (List.mem_of_getElem? (i := 59) rfl))) (by decide) (t := .long) (t' := .long) (by decide) (by decide)) F4_46
  have F5_55 := Gw49 (slot_ne (Or.inr (B.1 _ (List.mem_of_getElem? (i := 57) rfl))) (Or.inr (B.1 _ (List.mem_of_getElem? (i := 59) rfl))) (by decide) (t := .long) (t' := .long) (by decide) (by decide)) Fw41
  have F7_56 := Gw49 (slot_ne (Or.inr (B.1 _ (List.mem_of_getElem? (i := 61) rfl))) (Or.inr (B.1 _ (List.mem_of_getElem? (i := 59) rfl))) (by decide) (t := (.object "java/lang/String")) (t' := .long) (by decide) (by decide)) F7_48
  show C.W h49 [a] 0 0 (mkF K.m 43 #[.val (.ref a), .val (.ref k), .val .null, .val (.long li), .second, .val (.ref de), .val (.long re), .second, .val (.long fs), .second, .val (.long ls), .second, .val (.ref hd)] [])
  refine C.aloadN d11_43 rfl rfl ?_
  refine C.aload d11_44 rfl rfl ?_
  refine C.putF (host := "") (Or.inl (B.1 _ (List.mem_of_getElem? (i := 60) rfl))) Via.refl F7_56 Ew49 (Or.inr ⟨(B.1 _ (List.mem_of_getElem? (i := 61) rfl)), rfl, rfl⟩) (B.1 _ (List.mem_of_getElem? (i := 35) rfl)) (ty := (.object "java/lang/String")) (by decide) rfl rfl d11_46 (List.mem_of_getElem? (i := 0) rfl) fun h57 z57 K57 Ew57 Fw57 Gw57 => ?_
  have F0_58 := Gw57 (slot_ne (Or.inr (B.1 _ (List.mem_of_getElem? (i := 47) rfl))) (Or.inr (B.1 _ (List.mem_of_getElem? (i := 61) rfl))) (by decide) (t := (.object "com/example/halysis/halysis/VerifyResult$Kind")) (t' := (.object "java/lang/String")) (by decide) (by decide)) F0_50
  have F1_59 := Gw57 (slot_ne (Or.inr (B.1 _ (List.mem_of_getElem? (i := 49) rfl))) (Or.inr (B.1 _ (List.mem_of_getElem? (i := 61) rfl))) (by decide) (t := (.object "java/nio/file/Path")) (t' := (.object "java/lang/String")) (by decide) (by decide)) F1_51
  have F2_60 := Gw57 (slot_ne (Or.inr (B.1 _ (List.mem_of_getElem? (i := 51) rfl))) (Or.inr (B.1 _ (List.mem_of_getElem? (i := 61) rfl))) (by decide) (t := .long) (t' := (.object "java/lang/String")) (by decide) (by decide)) F2_52
  have F3_61 := Gw57 (slot_ne (Or.inr (B.1 _ (List.mem_of_getElem? (i := 53) rfl))) (Or.inr (B.1 _ (List.mem_of_getElem? (i := 61) rfl))) (by decide) (t := (.object "java/lang/String")) (t' := (.object "java/lang/String")) (by decide) (by decide)) F3_53
  have F4_62 := Gw57 (slot_ne (Or.inr (B.1 _ (List.mem_of_getElem? (i := 55) rfl))) (Or.inr (B.1 _ (List.mem_of_getElem? (i := 61) rfl))) (by decide) (t := .long) (t' := (.object "java/lang/String")) (by decide) (by decide)) F4_54
  have F5_63 := Gw57 (slot_ne (Or.inr (B.1 _ (List.mem_of_getElem? (i := 57) rfl))) (Or.inr (B.1 _ (List.mem_of_getElem? (i := 61) rfl))) (by decide) (t := .long) (t' := (.object "java/lang/String")) (by decide) (by decide)) F5_55
  have F6_64 := Gw57 (slot_ne (Or.inr (B.1 _ (List.mem_of_getElem? (i := 59) rfl))) (Or.inr (B.1 _ (List.mem_of_getElem? (i := 61) rfl))) (by decide) (t := .long) (t' := (.object "java/lang/String")) (by decide) (by decide)) Fw49
  show C.W h57 [a] 0 0 (mkF K.m 49 #[.val (.ref a), .val (.ref k), .val .null, .val (.long li), .second, .val (.ref de), .val (.long re), .second, .val (.long fs), .second, .val (.long ls), .second, .val (.ref hd)] [])
  exact C.return_ rfl d11_49 (by decide) (by decide) ⟨rfl, Ew57, F0_58, F1_59, F2_60, F3_61, F4_62, F5_63, F6_64, Fw57⟩
set_option maxRecDepth 65536 in
set_option maxHeartbeats 40000000 in
theorem c_kind {kS : Nat} (B : Base Z a0 kS) {h : Heap} {a : Nat} {z : Nat} (F : Fld Z h a "com/example/halysis/halysis/VerifyResult" "kind" "Lcom/example/halysis/halysis/VerifyResult$Kind;" (.ref z)) : Con l Z a0 EL n0 (⟨"com/example/halysis/halysis/VerifyResult", "kind", "()Lcom/example/halysis/halysis/VerifyResult$Kind;"⟩ : MethodName) 1 12 0 0 #[.ref a] h [] (fun v h' => v = some (.ref z) ∧ h = h') := by
  refine Met.con (bytes := prog_31_method_6_code) (maxL := 1) (ret := (some (.object "com/example/halysis/halysis/VerifyResult$Kind"))) (rm := ({ frames := 0, cells := 0, slots := 0, locals := 0 } : Room)) (Met.of (own := "com/example/halysis/halysis/VerifyResult") (nm := "kind") #[.val (.ref a)] (ew B) rfl rfl (plainFor_of_name pn_com_example_halysis_halysis_VerifyResult) (fun m => by first | (simp [entryFrame, mkF, argsToLocals, Value.category]; done) | rfl) fun K C => ?_) (B.1 _ (List.mem_of_getElem? (i := 71) rfl)) (B.1 _ (List.mem_of_getElem? (i := 32) rfl)) rfl rfl rfl rfl
  refine C.aloadN d12_0 rfl rfl ?_
  refine C.getF (host := "") (Or.inl (B.1 _ (List.mem_of_getElem? (i := 46) rfl))) Via.refl F d12_1 ?_
  exact C.areturn rfl rfl rfl d12_4 (by decide) (by decide) ⟨rfl, rfl⟩
set_option maxRecDepth 65536 in
set_option maxHeartbeats 40000000 in
theorem c_file {kS : Nat} (B : Base Z a0 kS) {h : Heap} {a : Nat} (F : Fld Z h a "com/example/halysis/halysis/VerifyResult" "file" "Ljava/nio/file/Path;" .null) : Con l Z a0 EL n0 (⟨"com/example/halysis/halysis/VerifyResult", "file", "()Ljava/nio/file/Path;"⟩ : MethodName) 1 12 0 0 #[.ref a] h [] (fun v h' => v = some .null ∧ h = h') := by
  refine Met.con (bytes := prog_31_method_7_code) (maxL := 1) (ret := (some (.object "java/nio/file/Path"))) (rm := ({ frames := 0, cells := 0, slots := 0, locals := 0 } : Room)) (Met.of (own := "com/example/halysis/halysis/VerifyResult") (nm := "file") #[.val (.ref a)] (ew B) rfl rfl (plainFor_of_name pn_com_example_halysis_halysis_VerifyResult) (fun m => by first | (simp [entryFrame, mkF, argsToLocals, Value.category]; done) | rfl) fun K C => ?_) (B.1 _ (List.mem_of_getElem? (i := 77) rfl)) (B.1 _ (List.mem_of_getElem? (i := 32) rfl)) rfl rfl rfl rfl
  refine C.aloadN d13_0 rfl rfl ?_
  refine C.getF (host := "") (Or.inl (B.1 _ (List.mem_of_getElem? (i := 48) rfl))) Via.refl F d13_1 ?_
  exact C.areturn rfl rfl rfl d13_4 (by decide) (by decide) ⟨rfl, rfl⟩
set_option maxRecDepth 65536 in
set_option maxHeartbeats 40000000 in
theorem c_line {kS : Nat} (B : Base Z a0 kS) {h : Heap} {a : Nat} {j : Int64} (F : Fld Z h a "com/example/halysis/halysis/VerifyResult" "line" "J" (.long j)) : Con l Z a0 EL n0 (⟨"com/example/halysis/halysis/VerifyResult", "line", "()J"⟩ : MethodName) 1 12 0 0 #[.ref a] h [] (fun v h' => v = some (.long j) ∧ h = h') := by
  refine Met.con (bytes := prog_31_method_8_code) (maxL := 1) (ret := (some .long)) (rm := ({ frames := 0, cells := 0, slots := 0, locals := 0 } : Room)) (Met.of (own := "com/example/halysis/halysis/VerifyResult") (nm := "line") #[.val (.ref a)] (ew B) rfl rfl (plainFor_of_name pn_com_example_halysis_halysis_VerifyResult) (fun m => by first | (simp [entryFrame, mkF, argsToLocals, Value.category]; done) | rfl) fun K C => ?_) (B.1 _ (List.mem_of_getElem? (i := 82) rfl)) (B.1 _ (List.mem_of_getElem? (i := 32) rfl)) rfl rfl rfl rfl
  refine C.aloadN d14_0 rfl rfl ?_
  refine C.getF (host := "") (Or.inl (B.1 _ (List.mem_of_getElem? (i := 50) rfl))) Via.refl F d14_1 ?_
  exact C.lreturn rfl d14_4 (by decide) (by decide) ⟨rfl, rfl⟩
set_option maxRecDepth 65536 in
set_option maxHeartbeats 40000000 in
theorem c_detail {kS : Nat} (B : Base Z a0 kS) {h : Heap} {a : Nat} {z : Nat} (F : Fld Z h a "com/example/halysis/halysis/VerifyResult" "detail" "Ljava/lang/String;" (.ref z)) : Con l Z a0 EL n0 (⟨"com/example/halysis/halysis/VerifyResult", "detail", "()Ljava/lang/String;"⟩ : MethodName) 1 12 0 0 #[.ref a] h [] (fun v h' => v = some (.ref z) ∧ h = h') := by
  refine Met.con (bytes := prog_31_method_9_code) (maxL := 1) (ret := (some (.object "java/lang/String"))) (rm := ({ frames := 0, cells := 0, slots := 0, locals := 0 } : Room)) (Met.of (own := "com/example/halysis/halysis/VerifyResult") (nm := "detail") #[.val (.ref a)] (ew B) rfl rfl (plainFor_of_name pn_com_example_halysis_halysis_VerifyResult) (fun m => by first | (simp [entryFrame, mkF, argsToLocals, Value.category]; done) | rfl) fun K C => ?_) (B.1 _ (List.mem_of_getElem? (i := 87) rfl)) (B.1 _ (List.mem_of_getElem? (i := 32) rfl)) rfl rfl rfl rfl
  refine C.aloadN d15_0 rfl rfl ?_
  refine C.getF (host := "") (Or.inl (B.1 _ (List.mem_of_getElem? (i := 52) rfl))) Via.refl F d15_1 ?_
  exact C.areturn rfl rfl rfl d15_4 (by decide) (by decide) ⟨rfl, rfl⟩
set_option maxRecDepth 65536 in
set_option maxHeartbeats 40000000 in
theorem c_records {kS : Nat} (B : Base Z a0 kS) {h : Heap} {a : Nat} {j : Int64} (F : Fld Z h a "com/example/halysis/halysis/VerifyResult" "records" "J" (.long j)) : Con l Z a0 EL n0 (⟨"com/example/halysis/halysis/VerifyResult", "records", "()J"⟩ : MethodName) 1 12 0 0 #[.ref a] h [] (fun v h' => v = some (.long j) ∧ h = h') := by
  refine Met.con (bytes := prog_31_method_10_code) (maxL := 1) (ret := (some .long)) (rm := ({ frames := 0, cells := 0, slots := 0, locals := 0 } : Room)) (Met.of (own := "com/example/halysis/halysis/VerifyResult") (nm := "records") #[.val (.ref a)] (ew B) rfl rfl (plainFor_of_name pn_com_example_halysis_halysis_VerifyResult) (fun m => by first | (simp [entryFrame, mkF, argsToLocals, Value.category]; done) | rfl) fun K C => ?_) (B.1 _ (List.mem_of_getElem? (i := 97) rfl)) (B.1 _ (List.mem_of_getElem? (i := 32) rfl)) rfl rfl rfl rfl
  refine C.aloadN d16_0 rfl rfl ?_
  refine C.getF (host := "") (Or.inl (B.1 _ (List.mem_of_getElem? (i := 54) rfl))) Via.refl F d16_1 ?_
  exact C.lreturn rfl d16_4 (by decide) (by decide) ⟨rfl, rfl⟩
set_option maxRecDepth 65536 in
set_option maxHeartbeats 40000000 in
theorem c_firstSeq {kS : Nat} (B : Base Z a0 kS) {h : Heap} {a : Nat} {j : Int64} (F : Fld Z h a "com/example/halysis/halysis/VerifyResult" "firstSeq" "J" (.long j)) : Con l Z a0 EL n0 (⟨"com/example/halysis/halysis/VerifyResult", "firstSeq", "()J"⟩ : MethodName) 1 12 0 0 #[.ref a] h [] (fun v h' => v = some (.long j) ∧ h = h') := by
  refine Met.con (bytes := prog_31_method_11_code) (maxL := 1) (ret := (some .long)) (rm := ({ frames := 0, cells := 0, slots := 0, locals := 0 } : Room)) (Met.of (own := "com/example/halysis/halysis/VerifyResult") (nm := "firstSeq") #[.val (.ref a)] (ew B) rfl rfl (plainFor_of_name pn_com_example_halysis_halysis_VerifyResult) (fun m => by first | (simp [entryFrame, mkF, argsToLocals, Value.category]; done) | rfl) fun K C => ?_) (B.1 _ (List.mem_of_getElem? (i := 102) rfl)) (B.1 _ (List.mem_of_getElem? (i := 32) rfl)) rfl rfl rfl rfl
  refine C.aloadN d17_0 rfl rfl ?_
  refine C.getF (host := "") (Or.inl (B.1 _ (List.mem_of_getElem? (i := 56) rfl))) Via.refl F d17_1 ?_
  exact C.lreturn rfl d17_4 (by decide) (by decide) ⟨rfl, rfl⟩
set_option maxRecDepth 65536 in
set_option maxHeartbeats 40000000 in
theorem c_lastSeq {kS : Nat} (B : Base Z a0 kS) {h : Heap} {a : Nat} {j : Int64} (F : Fld Z h a "com/example/halysis/halysis/VerifyResult" "lastSeq" "J" (.long j)) : Con l Z a0 EL n0 (⟨"com/example/halysis/halysis/VerifyResult", "lastSeq", "()J"⟩ : MethodName) 1 12 0 0 #[.ref a] h [] (fun v h' => v = some (.long j) ∧ h = h') := by
  refine Met.con (bytes := prog_31_method_12_code) (maxL := 1) (ret := (some .long)) (rm := ({ frames := 0, cells := 0, slots := 0, locals := 0 } : Room)) (Met.of (own := "com/example/halysis/halysis/VerifyResult") (nm := "lastSeq") #[.val (.ref a)] (ew B) rfl rfl (plainFor_of_name pn_com_example_halysis_halysis_VerifyResult) (fun m => by first | (simp [entryFrame, mkF, argsToLocals, Value.category]; done) | rfl) fun K C => ?_) (B.1 _ (List.mem_of_getElem? (i := 107) rfl)) (B.1 _ (List.mem_of_getElem? (i := 32) rfl)) rfl rfl rfl rfl
  refine C.aloadN d18_0 rfl rfl ?_
  refine C.getF (host := "") (Or.inl (B.1 _ (List.mem_of_getElem? (i := 58) rfl))) Via.refl F d18_1 ?_
  exact C.lreturn rfl d18_4 (by decide) (by decide) ⟨rfl, rfl⟩
set_option maxRecDepth 65536 in
set_option maxHeartbeats 40000000 in
theorem c_head {kS : Nat} (B : Base Z a0 kS) {h : Heap} {a : Nat} {z : Nat} (F : Fld Z h a "com/example/halysis/halysis/VerifyResult" "head" "Ljava/lang/String;" (.ref z)) : Con l Z a0 EL n0 (⟨"com/example/halysis/halysis/VerifyResult", "head", "()Ljava/lang/String;"⟩ : MethodName) 1 12 0 0 #[.ref a] h [] (fun v h' => v = some (.ref z) ∧ h = h') := by
  refine Met.con (bytes := prog_31_method_13_code) (maxL := 1) (ret := (some (.object "java/lang/String"))) (rm := ({ frames := 0, cells := 0, slots := 0, locals := 0 } : Room)) (Met.of (own := "com/example/halysis/halysis/VerifyResult") (nm := "head") #[.val (.ref a)] (ew B) rfl rfl (plainFor_of_name pn_com_example_halysis_halysis_VerifyResult) (fun m => by first | (simp [entryFrame, mkF, argsToLocals, Value.category]; done) | rfl) fun K C => ?_) (B.1 _ (List.mem_of_getElem? (i := 112) rfl)) (B.1 _ (List.mem_of_getElem? (i := 32) rfl)) rfl rfl rfl rfl
  refine C.aloadN d19_0 rfl rfl ?_
  refine C.getF (host := "") (Or.inl (B.1 _ (List.mem_of_getElem? (i := 60) rfl))) Via.refl F d19_1 ?_
  exact C.areturn rfl rfl rfl d19_4 (by decide) (by decide) ⟨rfl, rfl⟩
set_option maxRecDepth 65536 in
set_option maxHeartbeats 40000000 in
theorem c_ok {kS : Nat} (B : Base Z a0 kS) {h : Heap} {a z : Nat} (F : Fld Z h a "com/example/halysis/halysis/VerifyResult" "kind" "Lcom/example/halysis/halysis/VerifyResult$Kind;" (.ref z)) : Con l Z a0 EL n0 (⟨"com/example/halysis/halysis/VerifyResult", "ok", "()Z"⟩ : MethodName) 1 12 0 0 #[.ref a] h [] (fun v h' => v = some (.int 0) ∧ h = h') := by
  refine Met.con (bytes := prog_31_method_5_code) (maxL := 1) (ret := (some .boolean)) (rm := ({ frames := 0, cells := 0, slots := 0, locals := 0 } : Room)) (Met.of (own := "com/example/halysis/halysis/VerifyResult") (nm := "ok") #[.val (.ref a)] (ew B) rfl rfl (plainFor_of_name pn_com_example_halysis_halysis_VerifyResult) (fun m => by first | (simp [entryFrame, mkF, argsToLocals, Value.category]; done) | rfl) fun K C => ?_) (B.1 _ (List.mem_of_getElem? (i := 66) rfl)) (B.1 _ (List.mem_of_getElem? (i := 32) rfl)) rfl rfl rfl rfl
  refine C.aloadN d20_0 rfl rfl ?_
  refine C.getF (host := "") (Or.inl (B.1 _ (List.mem_of_getElem? (i := 46) rfl))) Via.refl F d20_1 ?_
  refine C.ifnonnullY 11 d20_4 (by decide) (by decide) ?_
  refine C.iconst (v := (0 : Int32)) d20_11 (by first | rfl | decide) ?_
  exact C.ireturn (t := .boolean) rfl (by simp) rfl d20_12 (by decide) (by decide) ⟨rfl, rfl⟩
set_option maxRecDepth 65536 in
set_option maxHeartbeats 40000000 in
theorem c_cm {kS : Nat} (B : Base Z a0 kS) {h : Heap} {re : Int64} {de : Nat} : Con l Z a0 EL n0 (⟨"com/example/halysis/halysis/VerifyResult", "checkpointMissing", "(JLjava/lang/String;)Lcom/example/halysis/halysis/VerifyResult;"⟩ : MethodName) 3 51 3 12 #[.long re, .ref de] h [] (fun v h' => ∃ (a hd : Nat), v = some (.ref a) ∧ h.size ≤ a ∧ a < h'.size ∧ Str Z h' h'.size hd [] ∧ Exa Z h' a "com/example/halysis/halysis/VerifyResult" ∧ Fld Z h' a "com/example/halysis/halysis/VerifyResult" "kind" "Lcom/example/halysis/halysis/VerifyResult$Kind;" (.ref kS) ∧ Fld Z h' a "com/example/halysis/halysis/VerifyResult" "file" "Ljava/nio/file/Path;" .null ∧ Fld Z h' a "com/example/halysis/halysis/VerifyResult" "line" "J" (.long 0) ∧ Fld Z h' a "com/example/halysis/halysis/VerifyResult" "detail" "Ljava/lang/String;" (.ref de) ∧ Fld Z h' a "com/example/halysis/halysis/VerifyResult" "records" "J" (.long re) ∧ Fld Z h' a "com/example/halysis/halysis/VerifyResult" "firstSeq" "J" (.long 0) ∧ Fld Z h' a "com/example/halysis/halysis/VerifyResult" "lastSeq" "J" (.long 0) ∧ Fld Z h' a "com/example/halysis/halysis/VerifyResult" "head" "Ljava/lang/String;" (.ref hd)) := by
  refine Met.con (bytes := prog_31_method_4_code) (maxL := 3) (ret := (some (.object "com/example/halysis/halysis/VerifyResult"))) (rm := ({ frames := 2, cells := 3, slots := 12, locals := 37 } : Room)) (Met.of (own := "com/example/halysis/halysis/VerifyResult") (nm := "checkpointMissing") #[.val (.long re), .second, .val (.ref de)] (ew B) rfl rfl (plainFor_of_name pn_com_example_halysis_halysis_VerifyResult) (fun m => by first | (simp [entryFrame, mkF, argsToLocals, Value.category]; done) | rfl) fun K C => ?_) (B.1 _ (List.mem_of_getElem? (i := 33) rfl)) (B.1 _ (List.mem_of_getElem? (i := 32) rfl)) rfl rfl rfl rfl
  refine C.new (B.1 _ (List.mem_of_getElem? (i := 34) rfl)) (B.1 _ (List.mem_of_getElem? (i := 35) rfl)) (B.1 _ (List.mem_of_getElem? (i := 32) rfl)) d21_0 (by decide) (by decide) fun h1 a2 g1 z1 o1 K1 En1 Dn1 => ?_
  show C.W h1 [a2] 1 8 (mkF K.m 3 #[.val (.long re), .second, .val (.ref de)] [.ref a2])
  have F_kind : Fld Z h1 a2 "com/example/halysis/halysis/VerifyResult" "kind" "Lcom/example/halysis/halysis/VerifyResult$Kind;" (.null) := Dn1 (Or.inr (B.1 _ (List.mem_of_getElem? (i := 47) rfl))) (ty := (.object "com/example/halysis/halysis/VerifyResult$Kind")) (by decide)
  have F_file : Fld Z h1 a2 "com/example/halysis/halysis/VerifyResult" "file" "Ljava/nio/file/Path;" (.null) := Dn1 (Or.inr (B.1 _ (List.mem_of_getElem? (i := 49) rfl))) (ty := (.object "java/nio/file/Path")) (by decide)
  have F_line : Fld Z h1 a2 "com/example/halysis/halysis/VerifyResult" "line" "J" (.long 0) := Dn1 (Or.inr (B.1 _ (List.mem_of_getElem? (i := 51) rfl))) (ty := .long) (by decide)
  have F_detail : Fld Z h1 a2 "com/example/halysis/halysis/VerifyResult" "detail" "Ljava/lang/String;" (.null) := Dn1 (Or.inr (B.1 _ (List.mem_of_getElem? (i := 53) rfl))) (ty := (.object "java/lang/String")) (by decide)
  have F_records : Fld Z h1 a2 "com/example/halysis/halysis/VerifyResult" "records" "J" (.long 0) := Dn1 (Or.inr (B.1 _ (List.mem_of_getElem? (i := 55) rfl))) (ty := .long) (by decide)
  have F_firstSeq : Fld Z h1 a2 "com/example/halysis/halysis/VerifyResult" "firstSeq" "J" (.long 0) := Dn1 (Or.inr (B.1 _ (List.mem_of_getElem? (i := 57) rfl))) (ty := .long) (by decide)
  have F_lastSeq : Fld Z h1 a2 "com/example/halysis/halysis/VerifyResult" "lastSeq" "J" (.long 0) := Dn1 (Or.inr (B.1 _ (List.mem_of_getElem? (i := 59) rfl))) (ty := .long) (by decide)
  have F_head : Fld Z h1 a2 "com/example/halysis/halysis/VerifyResult" "head" "Ljava/lang/String;" (.null) := Dn1 (Or.inr (B.1 _ (List.mem_of_getElem? (i := 61) rfl))) (ty := (.object "java/lang/String")) (by decide)
  refine C.dup rfl d21_3 ?_
  refine C.getS (B.1 _ (List.mem_of_getElem? (i := 36) rfl)) Via.refl B.2.2 d21_4 ?_
  refine C.aconstNull d21_7 ?_
  refine C.lconst (v := (0 : Int64)) d21_8 (by first | rfl | decide) ?_
  refine C.aloadN d21_9 rfl rfl ?_
  refine C.lloadN d21_10 rfl ?_
  refine C.lconst (v := (0 : Int64)) d21_11 (by first | rfl | decide) ?_
  refine C.lconst (v := (0 : Int64)) d21_12 (by first | rfl | decide) ?_
  refine C.ldcC (vs := []) (z := 0) 0 (B.1 _ (List.mem_of_getElem? (i := 39) rfl)) (sA B) (by simp [EL]) ⟨by decide, by first | rfl | decide⟩ (by decide) (by first | rfl | decide) (by decide) (by decide) d21_13 (by decide) (by decide) fun h3 s3 t3 z3 K3 ls3 lt3 ne3 Es3 Cs3 Fs3 As3 => ?_
  have nt3_a2 := (ne3 a2 (List.mem_of_getElem? (i := 0) rfl)).2
  have ns3_a2 := (ne3 a2 (List.mem_of_getElem? (i := 0) rfl)).1
  show C.W h3 [a2] 3 12 (mkF K.m 15 #[.val (.long re), .second, .val (.ref de)] [.ref s3, .long (0 : Int64), .long (0 : Int64), .long re, .ref de, .long (0 : Int64), .null, .ref kS, .ref a2, .ref a2])
  have En1_4 := (En1.keep K3)
  have F_kind_5 := (F_kind.keep K3 nin0)
  have F_file_6 := (F_file.keep K3 nin0)
  have F_line_7 := (F_line.keep K3 nin0)
  have F_detail_8 := (F_detail.keep K3 nin0)
  have F_records_9 := (F_records.keep K3 nin0)
  have F_firstSeq_10 := (F_firstSeq.keep K3 nin0)
  have F_lastSeq_11 := (F_lastSeq.keep K3 nin0)
  have F_head_12 := (F_head.keep K3 nin0)
  refine C.callN a2 [.ref kS, .null, .long (0 : Int64), .ref de, .long re, .long (0 : Int64), .long (0 : Int64), .ref s3] [.ref a2] 1 (B.1 _ (List.mem_of_getElem? (i := 42) rfl)) (B.1 _ (List.mem_of_getElem? (i := 43) rfl)) (B.1 _ (List.mem_of_getElem? (i := 44) rfl)) rfl (by decide) pd__28_Lcom_2f_example_2f_halysis_2f_halysis_2f_VerifyResult_24_Kind_3b_Ljava_2f_nio_2f_file_2f_Path_3b_JLjava_2f_lang_2f_String_3b_JJJLjava_2f_lang_2f_String_3b__29_V rfl (c_vinit B En1_4 F_kind_5 F_file_6 F_line_7 F_detail_8 F_records_9 F_firstSeq_10 F_lastSeq_11 F_head_12) d21_15 rfl rfl rfl (by decide) (by decide) (by decide) (by decide) (allS (List.mem_of_getElem? (i := 0) rfl) all0) fun v13 h13 z13 K13 q13 => ?_
  obtain ⟨rfl, ER, G0, G1, G2, G3, G4, G5, G6, G7⟩ := q13
  show C.W h13 [a2] 3 12 (mkF K.m 18 #[.val (.long re), .second, .val (.ref de)] [.ref a2])
  have hne1 := ns3_a2
  have hne2 := nt3_a2
  have Es3_14 := (Es3.keep K13)
  have Fs3_15 := (Fs3.keep K13 (ninS (neA (by omega)) nin0))
  have Cs3_16 := (Cs3.keep K13 (ninS (neA (by omega)) nin0))
  have As3_17 := (As3.keep K13 (ninS (neA (by omega)) nin0))
  exact C.areturn rfl rfl rfl d21_18 (by decide) (by decide) ⟨a2, s3, rfl, by omega, by omega, ⟨Es3_14, by omega, Nat.le_refl _, t3, 0, [], by omega, Fs3_15, Cs3_16, As3_17, Or.inl ⟨rfl, rfl, by simp⟩⟩, ER, G0, G1, G2, G3, G4, G5, G6, G7⟩
set_option maxRecDepth 65536 in
set_option maxHeartbeats 40000000 in
theorem m_law {kS : Nat} (B : Base Z a0 kS) {re : Int64} {n p : Int32} {h : Heap} : Met l Z EL n0 x code maxLocals Jvm.Pilot.@@N@@.ret room_1 tables_1 #[.long re, .int n, .int p] h [] (fun v h' => v = some (.int 1)) := by
  refine Met.of (own := "com/example/halysis/halysis/VerifyResultCheckpointMissingPinLaw") (nm := "law") #[.val (.long re), .second, .val (.int n), .val (.int p), .unset, .unset, .unset, .unset, .unset] (ew B) rfl rfl (plainFor_of_name pn_com_example_halysis_halysis_VerifyResultCheckpointMissingPinLaw) (fun m => by first | (simp [entryFrame, mkF, argsToLocals, Value.category, maxLocals]; done) | rfl) fun K C => ?_
  have lr := lcmp_self re
  have l0 := lcmp_self 0
  have k0 : (0 : Int32).toInt = 0 := by decide
  have k1 : (1 : Int32).toInt = 1 := by decide
  have k2 : (2 : Int32).toInt = 2 := by decide
  have k3 : (3 : Int32).toInt = 3 := by decide
  refine C.iloadN at_0 rfl ?_
  refine C.sipush (v := (255 : Int32)) at_1 (by first | rfl | decide) ?_
  refine C.iand at_4 ?_
  refine C.i2c at_5 ?_
  obtain ⟨c0, e_c0⟩ : ∃ z, (p &&& (255 : Int32)).toUInt32.toUInt16.toUInt32.toInt32 = z := ⟨_, rfl⟩
  refine C.topI e_c0 ?_
  have b_c0 : 0 ≤ c0.toInt ∧ c0.toInt < 256 := by rw [← e_c0]; exact and_chr _
  refine C.istore #[.val (.long re), .second, .val (.int n), .val (.int p), .val (.int c0), .unset, .unset, .unset, .unset] at_6 rfl ?_
  refine C.iloadN at_8 rfl ?_
  refine C.bipush (v := (8 : Int32)) at_9 (by first | rfl | decide) ?_
  refine C.iushr at_11 ?_
  refine C.sipush (v := (255 : Int32)) at_12 (by first | rfl | decide) ?_
  refine C.iand at_15 ?_
  refine C.i2c at_16 ?_
  obtain ⟨c1, e_c1⟩ : ∃ z, ((p.toUInt32 >>> ((8 : Int32) &&& 31).toUInt32).toInt32 &&& (255 : Int32)).toUInt32.toUInt16.toUInt32.toInt32 = z := ⟨_, rfl⟩
  refine C.topI e_c1 ?_
  have b_c1 : 0 ≤ c1.toInt ∧ c1.toInt < 256 := by rw [← e_c1]; exact and_chr _
  refine C.istore #[.val (.long re), .second, .val (.int n), .val (.int p), .val (.int c0), .val (.int c1), .unset, .unset, .unset] at_17 rfl ?_
  refine C.iloadN at_19 rfl ?_
  refine C.iconst (v := (3 : Int32)) at_20 (by first | rfl | decide) ?_
  refine C.iand at_21 ?_
  obtain ⟨z, e_z⟩ : ∃ z, (n &&& (3 : Int32)) = z := ⟨_, rfl⟩
  refine C.topI e_z ?_
  refine C.istore #[.val (.long re), .second, .val (.int n), .val (.int p), .val (.int c0), .val (.int c1), .val (.int z), .unset, .unset] at_22 rfl ?_
  refine C.iload at_24 rfl ?_
  have J1 : ∀ (h1 : Heap) (x : Nat) (cs : List Int32) (s8 : Slot), One s8 → Str Z h1 h1.size x cs → C.W h1 [] 6 16 (mkF K.m 88 #[.val (.long re), .second, .val (.int n), .val (.int p), .val (.int c0), .val (.int c1), .val (.int z), .val (.ref x), s8] []) := by
    intro h1 x cs s8 h8 S
    refine C.lloadN at_88 rfl ?_
    refine C.aload at_89 rfl rfl ?_
    refine C.callS [.long re, .ref x] [] 0 (B.1 _ (List.mem_of_getElem? (i := 30) rfl)) (B.1 _ (List.mem_of_getElem? (i := 31) rfl)) (B.1 _ (List.mem_of_getElem? (i := 32) rfl)) (B.1 _ (List.mem_of_getElem? (i := 33) rfl)) (by decide) pd__28_JLjava_2f_lang_2f_String_3b__29_Lcom_2f_example_2f_halysis_2f_halysis_2f_VerifyResult_3b_ rfl (c_cm B (re := re) (de := x)) at_91 rfl rfl rfl (by decide) (by decide) (by decide) (by decide) all0 fun v2 h2 z2 K2 q2 => ?_
    obtain ⟨t, hd, rfl, lt1, lt2, Sd, Et, G0, G1, G2, G3, G4, G5, G6, G7⟩ := q2
    show C.W h2 [] 9 28 (mkF K.m 94 #[.val (.long re), .second, .val (.int n), .val (.int p), .val (.int c0), .val (.int c1), .val (.int z), .val (.ref x), s8] [.ref t])
    refine C.astore #[.val (.long re), .second, .val (.int n), .val (.int p), .val (.int c0), .val (.int c1), .val (.int z), .val (.ref x), .val (.ref t)] at_94 rfl (XS.store1 rfl h8 rfl) ?_
    refine C.aload at_96 rfl rfl ?_
    refine C.callV t [] [] 0 (B.1 _ (List.mem_of_getElem? (i := 62) rfl)) (B.1 _ (List.mem_of_getElem? (i := 63) rfl)) (B.1 _ (List.mem_of_getElem? (i := 65) rfl)) (B.1 _ (List.mem_of_getElem? (i := 64) rfl)) (by decide) rfl Et pd__28__29_Z rfl (c_ok B G0) at_98 rfl rfl rfl (by decide) (by decide) (by decide) (by decide) all0 fun v3 h3 z3 K3 q3 => ?_
    obtain ⟨rfl, rfl⟩ := q3
    show C.W h2 [] 9 28 (mkF K.m 101 #[.val (.long re), .second, .val (.int n), .val (.int p), .val (.int c0), .val (.int c1), .val (.int z), .val (.ref x), .val (.ref t)] [.int (0 : Int32)])
    refine C.ifc_ne 191 at_101 (by decide) (by decide) (fun q4 => ?_) (fun q4 => ?_)
    · exfalso; revert q4; decide
    · refine C.aload at_104 rfl rfl ?_
      refine C.callV t [] [] 0 (B.1 _ (List.mem_of_getElem? (i := 67) rfl)) (B.1 _ (List.mem_of_getElem? (i := 68) rfl)) (B.1 _ (List.mem_of_getElem? (i := 70) rfl)) (B.1 _ (List.mem_of_getElem? (i := 69) rfl)) (by decide) rfl Et pd__28__29_Lcom_2f_example_2f_halysis_2f_halysis_2f_VerifyResult_24_Kind_3b_ rfl (c_kind B G0) at_106 rfl rfl rfl (by decide) (by decide) (by decide) (by decide) all0 fun v5 h5 z5 K5 q5 => ?_
      obtain ⟨rfl, rfl⟩ := q5
      show C.W h2 [] 9 28 (mkF K.m 109 #[.val (.long re), .second, .val (.int n), .val (.int p), .val (.int c0), .val (.int c1), .val (.int z), .val (.ref x), .val (.ref t)] [.ref kS])
      refine C.getS (B.1 _ (List.mem_of_getElem? (i := 72) rfl)) Via.refl B.2.2 at_109 ?_
      refine C.acmp 115 true at_112 rfl rfl (by simp) (by decide) (by decide) ?_
      refine C.aload at_115 rfl rfl ?_
      refine C.callV t [] [] 0 (B.1 _ (List.mem_of_getElem? (i := 73) rfl)) (B.1 _ (List.mem_of_getElem? (i := 74) rfl)) (B.1 _ (List.mem_of_getElem? (i := 76) rfl)) (B.1 _ (List.mem_of_getElem? (i := 75) rfl)) (by decide) rfl Et pd__28__29_Ljava_2f_nio_2f_file_2f_Path_3b_ rfl (c_file B G1) at_117 rfl rfl rfl (by decide) (by decide) (by decide) (by decide) all0 fun v6 h6 z6 K6 q6 => ?_
      obtain ⟨rfl, rfl⟩ := q6
      show C.W h2 [] 9 28 (mkF K.m 120 #[.val (.long re), .second, .val (.int n), .val (.int p), .val (.int c0), .val (.int c1), .val (.int z), .val (.ref x), .val (.ref t)] [.null])
      refine C.ifnonnullN at_120 ?_
      refine C.aload at_123 rfl rfl ?_
      refine C.callV t [] [] 0 (B.1 _ (List.mem_of_getElem? (i := 78) rfl)) (B.1 _ (List.mem_of_getElem? (i := 79) rfl)) (B.1 _ (List.mem_of_getElem? (i := 81) rfl)) (B.1 _ (List.mem_of_getElem? (i := 80) rfl)) (by decide) rfl Et pd__28__29_J rfl (c_line B G2) at_125 rfl rfl rfl (by decide) (by decide) (by decide) (by decide) all0 fun v7 h7 z7 K7 q7 => ?_
      obtain ⟨rfl, rfl⟩ := q7
      show C.W h2 [] 9 28 (mkF K.m 128 #[.val (.long re), .second, .val (.int n), .val (.int p), .val (.int c0), .val (.int c1), .val (.int z), .val (.ref x), .val (.ref t)] [.long 0])
      refine C.lconst (v := (0 : Int64)) at_128 (by first | rfl | decide) ?_
      refine C.lcmp at_129 ?_
      refine C.ifc_ne 191 at_130 (by decide) (by decide) (fun q8 => ?_) (fun q8 => ?_)
      · exfalso; exact q8 l0
      · refine C.aload at_133 rfl rfl ?_
        refine C.callV t [] [] 0 (B.1 _ (List.mem_of_getElem? (i := 83) rfl)) (B.1 _ (List.mem_of_getElem? (i := 84) rfl)) (B.1 _ (List.mem_of_getElem? (i := 86) rfl)) (B.1 _ (List.mem_of_getElem? (i := 85) rfl)) (by decide) rfl Et pd__28__29_Ljava_2f_lang_2f_String_3b_ rfl (c_detail B G3) at_135 rfl rfl rfl (by decide) (by decide) (by decide) (by decide) all0 fun v9 h9 z9 K9 q9 => ?_
        obtain ⟨rfl, rfl⟩ := q9
        show C.W h2 [] 9 28 (mkF K.m 138 #[.val (.long re), .second, .val (.int n), .val (.int p), .val (.int c0), .val (.int c1), .val (.int z), .val (.ref x), .val (.ref t)] [.ref x])
        refine C.aload at_138 rfl rfl ?_
        have S_10 := (S.keep K2 all0)
        have Ex := S_10.exa
        refine C.callV x [.ref x] [] 0 (B.1 _ (List.mem_of_getElem? (i := 88) rfl)) (B.1 _ (List.mem_of_getElem? (i := 89) rfl)) (B.1 _ (List.mem_of_getElem? (i := 91) rfl)) (B.1 _ (List.mem_of_getElem? (i := 90) rfl)) (by decide) rfl Ex pd__28_Ljava_2f_lang_2f_Object_3b__29_Z rfl (c_eqself B (x := x)) at_140 rfl rfl rfl (by decide) (by decide) (by decide) (by decide) all0 fun v11 h11 z11 K11 q11 => ?_
        obtain ⟨rfl, rfl⟩ := q11
        show C.W h2 [] 9 28 (mkF K.m 143 #[.val (.long re), .second, .val (.int n), .val (.int p), .val (.int c0), .val (.int c1), .val (.int z), .val (.ref x), .val (.ref t)] [.int (1 : Int32)])
        refine C.ifc_eq 191 at_143 (by decide) (by decide) (fun q12 => ?_) (fun q12 => ?_)
        · exfalso; revert q12; decide
        · refine C.aload at_146 rfl rfl ?_
          refine C.callV t [] [] 0 (B.1 _ (List.mem_of_getElem? (i := 93) rfl)) (B.1 _ (List.mem_of_getElem? (i := 94) rfl)) (B.1 _ (List.mem_of_getElem? (i := 96) rfl)) (B.1 _ (List.mem_of_getElem? (i := 95) rfl)) (by decide) rfl Et pd__28__29_J rfl (c_records B G4) at_148 rfl rfl rfl (by decide) (by decide) (by decide) (by decide) all0 fun v13 h13 z13 K13 q13 => ?_
          obtain ⟨rfl, rfl⟩ := q13
          show C.W h2 [] 9 28 (mkF K.m 151 #[.val (.long re), .second, .val (.int n), .val (.int p), .val (.int c0), .val (.int c1), .val (.int z), .val (.ref x), .val (.ref t)] [.long re])
          refine C.lloadN at_151 rfl ?_
          refine C.lcmp at_152 ?_
          refine C.ifc_ne 191 at_153 (by decide) (by decide) (fun q14 => ?_) (fun q14 => ?_)
          · exfalso; exact q14 lr
          · refine C.aload at_156 rfl rfl ?_
            refine C.callV t [] [] 0 (B.1 _ (List.mem_of_getElem? (i := 98) rfl)) (B.1 _ (List.mem_of_getElem? (i := 99) rfl)) (B.1 _ (List.mem_of_getElem? (i := 101) rfl)) (B.1 _ (List.mem_of_getElem? (i := 100) rfl)) (by decide) rfl Et pd__28__29_J rfl (c_firstSeq B G5) at_158 rfl rfl rfl (by decide) (by decide) (by decide) (by decide) all0 fun v15 h15 z15 K15 q15 => ?_
            obtain ⟨rfl, rfl⟩ := q15
            show C.W h2 [] 9 28 (mkF K.m 161 #[.val (.long re), .second, .val (.int n), .val (.int p), .val (.int c0), .val (.int c1), .val (.int z), .val (.ref x), .val (.ref t)] [.long 0])
            refine C.lconst (v := (0 : Int64)) at_161 (by first | rfl | decide) ?_
            refine C.lcmp at_162 ?_
            refine C.ifc_ne 191 at_163 (by decide) (by decide) (fun q16 => ?_) (fun q16 => ?_)
            · exfalso; exact q16 l0
            · refine C.aload at_166 rfl rfl ?_
              refine C.callV t [] [] 0 (B.1 _ (List.mem_of_getElem? (i := 103) rfl)) (B.1 _ (List.mem_of_getElem? (i := 104) rfl)) (B.1 _ (List.mem_of_getElem? (i := 106) rfl)) (B.1 _ (List.mem_of_getElem? (i := 105) rfl)) (by decide) rfl Et pd__28__29_J rfl (c_lastSeq B G6) at_168 rfl rfl rfl (by decide) (by decide) (by decide) (by decide) all0 fun v17 h17 z17 K17 q17 => ?_
              obtain ⟨rfl, rfl⟩ := q17
              show C.W h2 [] 9 28 (mkF K.m 171 #[.val (.long re), .second, .val (.int n), .val (.int p), .val (.int c0), .val (.int c1), .val (.int z), .val (.ref x), .val (.ref t)] [.long 0])
              refine C.lconst (v := (0 : Int64)) at_171 (by first | rfl | decide) ?_
              refine C.lcmp at_172 ?_
              refine C.ifc_ne 191 at_173 (by decide) (by decide) (fun q18 => ?_) (fun q18 => ?_)
              · exfalso; exact q18 l0
              · refine C.aload at_176 rfl rfl ?_
                refine C.callV t [] [] 0 (B.1 _ (List.mem_of_getElem? (i := 108) rfl)) (B.1 _ (List.mem_of_getElem? (i := 109) rfl)) (B.1 _ (List.mem_of_getElem? (i := 111) rfl)) (B.1 _ (List.mem_of_getElem? (i := 110) rfl)) (by decide) rfl Et pd__28__29_Ljava_2f_lang_2f_String_3b_ rfl (c_head B G7) at_178 rfl rfl rfl (by decide) (by decide) (by decide) (by decide) all0 fun v19 h19 z19 K19 q19 => ?_
                obtain ⟨rfl, rfl⟩ := q19
                show C.W h2 [] 9 28 (mkF K.m 181 #[.val (.long re), .second, .val (.int n), .val (.int p), .val (.int c0), .val (.int c1), .val (.int z), .val (.ref x), .val (.ref t)] [.ref hd])
                have Eh := Sd.exa
                refine C.callV hd [] [] 0 (B.1 _ (List.mem_of_getElem? (i := 113) rfl)) (B.1 _ (List.mem_of_getElem? (i := 114) rfl)) (B.1 _ (List.mem_of_getElem? (i := 116) rfl)) (B.1 _ (List.mem_of_getElem? (i := 115) rfl)) (by decide) rfl Eh pd__28__29_Z rfl (c_isEmpty B Sd) at_181 rfl rfl rfl (by decide) (by decide) (by decide) (by decide) all0 fun v20 h20 z20 K20 q20 => ?_
                obtain ⟨rfl, rfl⟩ := q20
                show C.W h2 [] 9 28 (mkF K.m 184 #[.val (.long re), .second, .val (.int n), .val (.int p), .val (.int c0), .val (.int c1), .val (.int z), .val (.ref x), .val (.ref t)] [.int (if ([] : List Int32) = [] then 1 else 0)])
                refine C.topI (show (if ([] : List Int32) = [] then 1 else 0) = (1 : Int32) by rfl) ?_
                refine C.ifc_eq 191 at_184 (by decide) (by decide) (fun q21 => ?_) (fun q21 => ?_)
                · exfalso; revert q21; decide
                · refine C.iconst (v := (1 : Int32)) at_187 (by first | rfl | decide) ?_
                  refine C.goto 192 at_188 (by decide) (by decide) ?_
                  exact C.ireturn (t := .boolean) rfl (by simp) rfl at_192 (by decide) (by decide) rfl
  refine C.ifc_ne 44 at_26 (by decide) (by decide) (fun q22 => ?_) (fun q22 => ?_)
  · refine C.iload at_44 rfl ?_
    refine C.iconst (v := (1 : Int32)) at_46 (by first | rfl | decide) ?_
    refine C.icmp_ne 60 at_47 (by decide) (by decide) (fun q23 => ?_) (fun q23 => ?_)
    · refine C.iconst (v := (2 : Int32)) at_60 (by first | rfl | decide) ?_
      refine C.newarr 2 2 (B.1 _ (List.mem_of_getElem? (i := 0) rfl)) at_61 (by first | rfl | decide) (by decide) (by decide) (by decide) (by decide) fun h24 a25 g24 z24 o24 K24 An24 => ?_
      have An24 : Ary Z h24 a25 .char [.int 0, .int 0] := An24
      show C.W h24 [a25] 1 2 (mkF K.m 63 #[.val (.long re), .second, .val (.int n), .val (.int p), .val (.int c0), .val (.int c1), .val (.int z), .unset, .unset] [.ref a25])
      refine C.astore #[.val (.long re), .second, .val (.int n), .val (.int p), .val (.int c0), .val (.int c1), .val (.int z), .unset, .val (.ref a25)] at_63 rfl rfl ?_
      refine C.aload at_65 rfl rfl ?_
      refine C.iconst (v := (0 : Int32)) at_67 (by first | rfl | decide) ?_
      refine C.iload at_68 rfl ?_
      refine C.castore 0 An24 (by first | rfl | decide) (Nat.le_of_ble_eq_true rfl) (by omega) (by omega) at_70 (List.mem_of_getElem? (i := 0) rfl) fun h26 z26 K26 Aw26 => ?_
      have Aw26 : Ary Z h26 a25 .char [.int c0, .int 0] := Aw26
      show C.W h26 [a25] 1 2 (mkF K.m 71 #[.val (.long re), .second, .val (.int n), .val (.int p), .val (.int c0), .val (.int c1), .val (.int z), .unset, .val (.ref a25)] [])
      refine C.aload at_71 rfl rfl ?_
      refine C.iconst (v := (1 : Int32)) at_73 (by first | rfl | decide) ?_
      refine C.iload at_74 rfl ?_
      refine C.castore 1 Aw26 (by first | rfl | decide) (Nat.le_of_ble_eq_true rfl) (by omega) (by omega) at_76 (List.mem_of_getElem? (i := 0) rfl) fun h27 z27 K27 Aw27 => ?_
      have Aw27 : Ary Z h27 a25 .char [.int c0, .int c1] := Aw27
      show C.W h27 [a25] 1 2 (mkF K.m 77 #[.val (.long re), .second, .val (.int n), .val (.int p), .val (.int c0), .val (.int c1), .val (.int z), .unset, .val (.ref a25)] [])
      refine C.new (B.1 _ (List.mem_of_getElem? (i := 1) rfl)) (B.1 _ (List.mem_of_getElem? (i := 2) rfl)) (B.1 _ (List.mem_of_getElem? (i := 3) rfl)) at_77 (by decide) (by decide) fun h28 a29 g28 z28 o28 K28 En28 Dn28 => ?_
      show C.W h28 [a29, a25] 2 6 (mkF K.m 80 #[.val (.long re), .second, .val (.int n), .val (.int p), .val (.int c0), .val (.int c1), .val (.int z), .unset, .val (.ref a25)] [.ref a29])
      have Fv : Fld Z h28 a29 "java/lang/String" "value" "[B" (.null) := Dn28 (Or.inr (B.1 _ (List.mem_of_getElem? (i := 29) rfl))) (ty := (.array .byte)) (by decide)
      have Fc : Fld Z h28 a29 "java/lang/String" "coder" "B" (.int 0) := Dn28 (Or.inr (B.1 _ (List.mem_of_getElem? (i := 27) rfl))) (ty := .byte) (by decide)
      refine C.dup rfl at_80 ?_
      refine C.aload at_81 rfl rfl ?_
      have An24_30 := (Aw27.keep K28 nin0)
      refine C.callN a29 [.ref a25] [.ref a29] 1 (B.1 _ (List.mem_of_getElem? (i := 4) rfl)) (B.1 _ (List.mem_of_getElem? (i := 5) rfl)) (B.1 _ (List.mem_of_getElem? (i := 6) rfl)) rfl (by decide) pd__28__5b_C_29_V rfl (c_init1 B (cs := [c0, c1]) En28 Fv Fc An24_30 (Nat.le_of_ble_eq_true rfl) (by simp; omega)) at_83 rfl rfl rfl (by decide) (by decide) (by decide) (by decide) (allS (List.mem_of_getElem? (i := 0) rfl) all0) fun v31 h31 z31 K31 q31 => ?_
      obtain ⟨rfl, S31⟩ := q31
      show C.W h31 [a29, a25] 6 14 (mkF K.m 86 #[.val (.long re), .second, .val (.int n), .val (.int p), .val (.int c0), .val (.int c1), .val (.int z), .unset, .val (.ref a25)] [.ref a29])
      refine C.astore #[.val (.long re), .second, .val (.int n), .val (.int p), .val (.int c0), .val (.int c1), .val (.int z), .val (.ref a29), .val (.ref a25)] at_86 rfl rfl ?_
      exact C.more (by decide) (by decide) (C.sub all0 (J1 _ _ [c0, c1] _ (One.val rfl) S31))
    · refine C.iload at_50 rfl ?_
      refine C.callS [.int c0] [] 0 (B.1 _ (List.mem_of_getElem? (i := 119) rfl)) (B.1 _ (List.mem_of_getElem? (i := 120) rfl)) (B.1 _ (List.mem_of_getElem? (i := 3) rfl)) (B.1 _ (List.mem_of_getElem? (i := 121) rfl)) (by decide) pd__28_C_29_Ljava_2f_lang_2f_String_3b_ rfl (c_valueOf B b_c0) at_52 rfl rfl rfl (by decide) (by decide) (by decide) (by decide) all0 fun v32 h32 z32 K32 q32 => ?_
      obtain ⟨x32, rfl, l32, S32⟩ := q32
      show C.W h32 [] 2 5 (mkF K.m 55 #[.val (.long re), .second, .val (.int n), .val (.int p), .val (.int c0), .val (.int c1), .val (.int z), .unset, .unset] [.ref x32])
      refine C.astore #[.val (.long re), .second, .val (.int n), .val (.int p), .val (.int c0), .val (.int c1), .val (.int z), .val (.ref x32), .unset] at_55 rfl rfl ?_
      refine C.goto 88 at_57 (by decide) (by decide) ?_
      exact C.more (by decide) (by decide) (C.sub all0 (J1 _ _ [c0] _ One.u S32))
  · refine C.new (B.1 _ (List.mem_of_getElem? (i := 1) rfl)) (B.1 _ (List.mem_of_getElem? (i := 2) rfl)) (B.1 _ (List.mem_of_getElem? (i := 3) rfl)) at_29 (by decide) (by decide) fun h33 a34 g33 z33 o33 K33 En33 Dn33 => ?_
    show C.W h33 [a34] 1 4 (mkF K.m 32 #[.val (.long re), .second, .val (.int n), .val (.int p), .val (.int c0), .val (.int c1), .val (.int z), .unset, .unset] [.ref a34])
    have Fv : Fld Z h33 a34 "java/lang/String" "value" "[B" (.null) := Dn33 (Or.inr (B.1 _ (List.mem_of_getElem? (i := 29) rfl))) (ty := (.array .byte)) (by decide)
    have Fc : Fld Z h33 a34 "java/lang/String" "coder" "B" (.int 0) := Dn33 (Or.inr (B.1 _ (List.mem_of_getElem? (i := 27) rfl))) (ty := .byte) (by decide)
    refine C.dup rfl at_32 ?_
    refine C.iconst (v := (0 : Int32)) at_33 (by first | rfl | decide) ?_
    refine C.newarr 0 0 (B.1 _ (List.mem_of_getElem? (i := 0) rfl)) at_34 (by first | rfl | decide) (by decide) (by decide) (by decide) (by decide) fun h35 a36 g35 z35 o35 K35 An35 => ?_
    have An35 : Ary Z h35 a36 .char [] := An35
    show C.W h35 [a36, a34] 2 4 (mkF K.m 36 #[.val (.long re), .second, .val (.int n), .val (.int p), .val (.int c0), .val (.int c1), .val (.int z), .unset, .unset] [.ref a36, .ref a34, .ref a34])
    have En33_37 := (En33.keep K35)
    have Fv_38 := (Fv.keep K35 nin0)
    have Fc_39 := (Fc.keep K35 nin0)
    refine C.callN a34 [.ref a36] [.ref a34] 1 (B.1 _ (List.mem_of_getElem? (i := 4) rfl)) (B.1 _ (List.mem_of_getElem? (i := 5) rfl)) (B.1 _ (List.mem_of_getElem? (i := 6) rfl)) rfl (by decide) pd__28__5b_C_29_V rfl (c_init1 B (cs := []) En33_37 Fv_38 Fc_39 An35 (Nat.le_of_ble_eq_true rfl) (by simp)) at_36 rfl rfl rfl (by decide) (by decide) (by decide) (by decide) (allS (List.mem_of_getElem? (i := 1) rfl) all0) fun v40 h40 z40 K40 q40 => ?_
    obtain ⟨rfl, S40⟩ := q40
    show C.W h40 [a36, a34] 6 12 (mkF K.m 39 #[.val (.long re), .second, .val (.int n), .val (.int p), .val (.int c0), .val (.int c1), .val (.int z), .unset, .unset] [.ref a34])
    refine C.astore #[.val (.long re), .second, .val (.int n), .val (.int p), .val (.int c0), .val (.int c1), .val (.int z), .val (.ref a34), .unset] at_39 rfl rfl ?_
    refine C.goto 88 at_41 (by decide) (by decide) ?_
    exact C.more (by decide) (by decide) (C.sub all0 (J1 _ _ [] _ One.u S40))
set_option maxRecDepth 65536 in
set_option maxHeartbeats 40000000 in
theorem comes_1 {Post : Tables → Env → Array Value → State → Outcome → State → Prop} (hpost : ∀ tb e args s v u, (limb_1_1.after args s (.returned v) u = true ∧ limb_1_2.after args s (.returned v) u = true ∧ True) → ReturnedEndW s (.returned v) u (Jvm.fieldLocs frame_1_writes args s ++ Jvm.arrayLocs frame_1_arrays args s ++ Jvm.staticLocs frame_1_statics s) 24 2176 → Post tb e args s (.returned v) u) :
    ArmFor flags0 classFile x code maxLocals ret World_1 tables_1 room_1 Calls_1 rest_1 Pre_1 Post := by
  intro l hfl _ _ p e ha hc hk s m args below hf hA hF happ hP
  obtain ⟨hcalls, hrest, hpre⟩ := hP
  obtain ⟨-, -, -, hnamed, -, -, -, hat⟩ := (Spec.applies_iff hf).mp happ
  obtain ⟨hg, hn⟩ := and_e (Cond.before_iff.mp (show (Jvm.Cond.and given_1 narrow_1).before args s = true from hpre))
  obtain ⟨hct, r0⟩ := and_e hg
  obtain ⟨w0, w1, w2, rfl⟩ : ∃ w0 w1 w2 : Value, args = #[w0, w1, w2] := by
    have hs : args.size = 3 := by simpa [Cond.value, given_1] using hct
    obtain ⟨L⟩ := args
    match L, hs with
    | [w0, w1, w2], _ => exact ⟨w0, w1, w2, rfl⟩
  have hw := fun d (hd : d ∈ tables_1) => atoms_spec (ws := Jvm.Cond.code x code maxLocals ret :: tables_1) hat d (List.mem_cons_of_mem _ hd)
  obtain ⟨hsets, hown0⟩ := atoms_of _ (rest_1_c_eq ▸ (show rest_1_c.before _ s = true from hrest))
  have n3 := not_v (Cond.before_iff.mp (hsets _ (List.mem_of_getElem? (i := 2) rfl)))
  obtain ⟨zc, ezc⟩ := is_v (Cond.before_iff.mp (hsets _ (List.mem_of_getElem? (i := 1) rfl)))
  have Szc : Sta s s.heap "java/lang/String" "COMPACT_STRINGS" "Z" (.int zc) := Sta.start ezc (Or.inl (hsets _ (List.mem_of_getElem? (i := 0) rfl)))
  have czc : ¬ (zc = (0 : Int32)) := gotF (Cond.eq_ints ezc (Term.int_eval (0))) n3
  obtain ⟨fm, efm, rfm⟩ := isR_v (Cond.before_iff.mp (hsets _ (List.mem_of_getElem? (i := 8) rfl)))
  have Sfm : Sta s s.heap "jdk/internal/util/Preconditions" "SIOOBE_FORMATTER" "Ljava/util/function/BiFunction;" fm := Sta.start efm (Or.inl (hsets _ (List.mem_of_getElem? (i := 7) rfl)))
  obtain ⟨g0, r1⟩ := and_e r0
  obtain ⟨i0, e0⟩ := isL_v g0
  obtain rfl : w0 = (.long i0) := Option.some.inj e0
  obtain ⟨g1, r2⟩ := and_e r1
  obtain ⟨i1, e1⟩ := is_v g1
  obtain rfl : w1 = (.int i1) := Option.some.inj e1
  obtain ⟨i2, e2⟩ := is_v r2
  obtain rfl : w2 = (.int i2) := Option.some.inj e2
  obtain ⟨kS, eS⟩ := exa_v hn
  have SS : Sta s s.heap "com/example/halysis/halysis/VerifyResult$Kind" "CHECKPOINT_MISSING" "Lcom/example/halysis/halysis/VerifyResult$Kind;" (.ref kS) := Sta.start eS (Or.inr ⟨(hw _ (List.mem_of_getElem? (i := 37) rfl)), (hw _ (List.mem_of_getElem? (i := 38) rfl))⟩)
  have B : Base s _ kS := ⟨hw, ⟨zc, Szc, czc⟩, SS⟩
  have hCH : CHv s EL s.vm s.heap := CHv.start (ew B) (fun p hp => hcalls.1 p hp) (hsets _ (List.mem_of_getElem? (i := 2) rfl)) (B.1 _ (List.mem_of_getElem? (i := 19) rfl)) (B.1 _ (List.mem_of_getElem? (i := 2) rfl))
  obtain ⟨n, o, h1, h2, h3, v, L, rfl, ⟨hq, -, N⟩, -, hR⟩ := m_law (l := l) (n0 := s.heap.size) (h := s.heap) (re := i0) (n := i1) (p := i2) B p e ha hc hk s m _ below hf ((Spec.applies_iff_loose hf).mp happ).1 ⟨rfl, State.Warmed39.refl s, rfl, hCH, Old.start s, fun _ q => nomatch q⟩ trivial
  obtain rfl := hq
  exact ⟨n, _, h1, h2, h3, hpost _ _ _ _ _ _ ⟨Cond.after_iff.mpr rfl, Cond.after_iff.mpr (eq_i res_at (Term.int_eval (1)) rfl), trivial⟩ ⟨hR.1, hR.2.1, hR.2.2.1, (hR.2.2.2.sift fun y hy => Or.inr (N y hy)).mono (by decide) (by decide)⟩⟩
theorem main_1_1 : Claimed_1_1 := comes_1 fun _ _ _ _ _ _ h hF => ⟨h.1, hF⟩
theorem main_1_2 : Claimed_1_2 := comes_1 fun _ _ _ _ _ _ h hF => ⟨h.2.1, hF⟩
end Jvm.Pilot.@@N@@
namespace Jvm.Pilot.@@N@@
open Jvm Jvm.ClassFile Sem Op Lib Jvm.Free Jvm.Stand Jvm.Pilot.@@N@@.Jvm.D
/-! MADE BY PROGRAM (witnessworld.py) out of the Statement's table words and the real class files: 22 classes; the members and pool entries that the words name. The judged class is class 1, her method 1. -/
namespace start1
open Jvm.ClassFile
def u (s : String) : CpInfo := .utf8 (stringToUtf16 s)
/-- a pool by its gaps: so many unusable entries, then the entry; so many at the end -/
def gap : Nat → List CpInfo → List CpInfo
  | 0, r => r
  | n + 1, r => .unusable :: gap n r
def poolList (es : List (Nat × CpInfo)) (last : Nat) : List CpInfo := es.foldr (fun e r => gap e.1 (e.2 :: r)) (gap last [])
def pool (es : List (Nat × CpInfo)) (last : Nat) : Array CpInfo := ⟨poolList es last⟩
def fileOf (pool : Array CpInfo) (this : Nat) (attrs : Array Attribute := #[]) (ms : Array MethodInfo := #[]) (fl : Nat := 33) (sup : Nat := 0) (ifs : Array Nat := #[]) (fds : Array FieldInfo := #[]) : ClassFile where
  minorVersion := 0
  majorVersion := 65
  constantPool := pool
  accessFlags := fl
  thisClass := this
  superClass := sup
  interfaces := ifs
  fields := fds
  methods := ms
  attributes := attrs
def plain (name : String) (sup : Option ClassId) : Class where
  name := name
  kind := .ordinary
  loader := none
  accessFlags := 33
  super := sup
  interfaces := #[]
  cf := none
  fields := #[]
  methods := #[]
  instanceTypes := #[]
  staticTypes := #[]
  resolved := #[]
  callSites := []
  init := .initialized
  statics := none
  mirror := none

def pool0 : Array CpInfo := pool [(5, u "<init>"), (0, u "()V"), (1, .class_ 10), (1, u "java/lang/Object")] 113

def k0c0 : Code := { maxStack := 0, maxLocals := 1, code := object_method_1_code, exceptionTable := #[], attributes := #[] }
def k0m0 : Method := { name := "<init>", desc := "()V", sig := { parameters := [], returnType := none }, accessFlags := 1, code := some k0c0 }
/-- java/lang/Object -/
def k0 : Class := { plain "java/lang/Object" none with
  accessFlags := 33
  interfaces := #[]
  cf := some (fileOf pool0 8 #[] #[{ accessFlags := 1, nameIndex := 5, descriptorIndex := 6, attributes := #[] }] 33 0 #[] #[])
  fields := #[]
  methods := #[k0m0]
  instanceTypes := #[]
  staticTypes := #[]
  resolved := Array.replicate 124 none
  statics := none }

def pool1 : Array CpInfo := pool [(2, .class_ 4), (1, u "java/lang/Object"), (0, u "<init>"), (0, u "()V"), (0, .class_ 8), (0, u "java/lang/String"), (0, .methodref 7 10), (0, .nameAndType 5 11), (0, u "([C)V"), (0, .methodref 7 13), (0, .nameAndType 14 15), (0, u "valueOf"), (0, u "(C)Ljava/lang/String;"), (0, .methodref 17 18), (0, .class_ 19), (0, .nameAndType 20 21), (0, u "com/example/halysis/halysis/VerifyResult"), (0, u "checkpointMissing"), (0, u "(JLjava/lang/String;)Lcom/example/halysis/halysis/VerifyResult;"), (0, .methodref 17 23), (0, .nameAndType 24 25), (0, u "ok"), (0, u "()Z"), (0, .methodref 17 27), (0, .nameAndType 28 29), (0, u "kind"), (0, u "()Lcom/example/halysis/halysis/VerifyResult$Kind;"), (0, .fieldref 31 32), (0, .class_ 33), (0, .nameAndType 34 35), (0, u "com/example/halysis/halysis/VerifyResult$Kind"), (0, u "CHECKPOINT_MISSING"), (0, u "Lcom/example/halysis/halysis/VerifyResult$Kind;"), (0, .methodref 17 37), (0, .nameAndType 38 39), (0, u "file"), (0, u "()Ljava/nio/file/Path;"), (0, .methodref 17 41), (0, .nameAndType 42 43), (0, u "line"), (0, u "()J"), (0, .methodref 17 45), (0, .nameAndType 46 47), (0, u "detail"), (0, u "()Ljava/lang/String;"), (0, .methodref 7 49), (0, .nameAndType 50 51), (0, u "equals"), (0, u "(Ljava/lang/Object;)Z"), (0, .methodref 17 53), (0, .nameAndType 54 43), (0, u "records"), (0, .methodref 17 56), (0, .nameAndType 57 43), (0, u "firstSeq"), (0, .methodref 17 59), (0, .nameAndType 60 43), (0, u "lastSeq"), (0, .methodref 17 62), (0, .nameAndType 63 47), (0, u "head"), (0, .methodref 7 65), (0, .nameAndType 66 25), (0, u "isEmpty"), (0, .class_ 68), (0, u "com/example/halysis/halysis/VerifyResultCheckpointMissingPinLaw"), (2, u "law"), (0, u "(JII)Z")] 5

def k1m0 : Method := { name := "<init>", desc := "()V", sig := { parameters := [], returnType := none }, accessFlags := 1, code := none }
def k1c1 : Code := { maxStack := 4, maxLocals := 9, code := code, exceptionTable := #[], attributes := #[] }
def k1m1 : Method := { name := "law", desc := "(JII)Z", sig := { parameters := [.long, .int, .int], returnType := some .boolean }, accessFlags := 9, code := some k1c1 }
/-- com/example/halysis/halysis/VerifyResultCheckpointMissingPinLaw -/
def k1 : Class := { plain "com/example/halysis/halysis/VerifyResultCheckpointMissingPinLaw" (some 0) with
  accessFlags := 49
  interfaces := #[]
  cf := some (fileOf pool1 67 #[] #[{ accessFlags := 1, nameIndex := 5, descriptorIndex := 6, attributes := #[] }, { accessFlags := 9, nameIndex := 71, descriptorIndex := 72, attributes := #[] }] 49 2 #[] #[])
  fields := #[]
  methods := #[k1m0, k1m1]
  instanceTypes := #[]
  staticTypes := #[]
  resolved := Array.replicate 78 none
  statics := none }

def pool2 : Array CpInfo := pool [(1, .class_ 2), (0, u "java/io/Serializable"), (0, .class_ 4), (0, u "java/lang/Object")] 2

/-- java/io/Serializable -/
def k2 : Class := { plain "java/io/Serializable" (some 0) with
  accessFlags := 1537
  interfaces := #[]
  cf := some (fileOf pool2 1 #[] #[] 1537 3 #[] #[])
  fields := #[]
  methods := #[]
  instanceTypes := #[]
  staticTypes := #[]
  resolved := Array.replicate 7 none
  statics := none }

def pool3 : Array CpInfo := pool [(1, .class_ 2), (0, u "java/lang/Comparable"), (0, .class_ 4), (0, u "java/lang/Object")] 7

/-- java/lang/Comparable -/
def k3 : Class := { plain "java/lang/Comparable" (some 0) with
  accessFlags := 1537
  interfaces := #[]
  cf := some (fileOf pool3 1 #[] #[] 1537 3 #[] #[])
  fields := #[]
  methods := #[]
  instanceTypes := #[]
  staticTypes := #[]
  resolved := Array.replicate 12 none
  statics := none }

def pool4 : Array CpInfo := pool [(2, .class_ 4), (1, u "java/lang/CharSequence"), (42, .class_ 48), (0, u "java/lang/CharSequence$1CodePointIterator"), (10, .class_ 60), (0, u "java/lang/CharSequence$1CharIterator"), (5, .class_ 67), (0, u "java/lang/Object")] 63

/-- java/lang/CharSequence -/
def k4 : Class := { plain "java/lang/CharSequence" (some 0) with
  accessFlags := 1537
  interfaces := #[]
  cf := some (fileOf pool4 2 #[.nestMembers #[47, 59]] #[] 1537 66 #[] #[])
  fields := #[]
  methods := #[]
  instanceTypes := #[]
  staticTypes := #[]
  resolved := Array.replicate 131 none
  statics := none }

def pool5 : Array CpInfo := pool [(1, .class_ 2), (0, u "java/lang/constant/Constable"), (0, .class_ 4), (0, u "java/lang/Object")] 6

/-- java/lang/constant/Constable -/
def k5 : Class := { plain "java/lang/constant/Constable" (some 0) with
  accessFlags := 1537
  interfaces := #[]
  cf := some (fileOf pool5 1 #[] #[] 1537 3 #[] #[])
  fields := #[]
  methods := #[]
  instanceTypes := #[]
  staticTypes := #[]
  resolved := Array.replicate 11 none
  statics := none }

def pool6 : Array CpInfo := pool [(1, .class_ 2), (0, u "java/lang/constant/ConstantDesc"), (0, .class_ 4), (0, u "java/lang/Object")] 32

/-- java/lang/constant/ConstantDesc -/
def k6 : Class := { plain "java/lang/constant/ConstantDesc" (some 0) with
  accessFlags := 1537
  interfaces := #[]
  cf := some (fileOf pool6 1 #[] #[] 1537 3 #[] #[])
  fields := #[]
  methods := #[]
  instanceTypes := #[]
  staticTypes := #[]
  resolved := Array.replicate 37 none
  statics := none }

def pool7 : Array CpInfo := pool [(1, .methodref 2 3), (0, .class_ 4), (0, .nameAndType 5 6), (0, u "java/lang/Object"), (0, u "<init>"), (0, u "()V"), (0, .string 8), (0, u ""), (0, .fieldref 10 11), (0, .class_ 12), (0, .nameAndType 13 14), (0, u "java/lang/String"), (0, u "value"), (0, u "[B"), (0, .fieldref 10 16), (0, .nameAndType 17 18), (0, u "coder"), (0, u "B"), (2, u "hash"), (0, u "I"), (2, u "hashIsZero"), (0, u "Z"), (0, .methodref 10 28), (0, .nameAndType 5 29), (0, u "([CIILjava/lang/Void;)V"), (8, .fieldref 10 39), (0, .nameAndType 40 26), (0, u "COMPACT_STRINGS"), (1, .class_ 44), (1, u "java/lang/StringUTF16"), (0, u "compress"), (1, .methodref 42 48), (0, .nameAndType 49 50), (0, u "coderFromArrayLen"), (0, u "([BI)B"), (2, u "toBytes"), (53, .class_ 109), (1, u "java/lang/StringLatin1"), (32, u "()Z"), (34, .methodref 42 178), (0, .nameAndType 45 179), (0, u "([CII)[B"), (29, .methodref 10 210), (0, .nameAndType 5 211), (0, u "([BB)V"), (157, u "(C)Z"), (173, u "equals"), (29, u "(Ljava/lang/Object;)Z"), (1, .class_ 576), (0, u "java/lang/CharSequence"), (22, u "CASE_INSENSITIVE_ORDER"), (0, u "Ljava/util/Comparator;"), (91, u "isEmpty"), (89, u "valueOf"), (0, u "(C)Ljava/lang/String;"), (226, u "([C)V"), (4, .methodref 107 1016), (0, .nameAndType 1017 369), (0, u "canEncode"), (0, .methodref 107 1019), (0, .nameAndType 53 1020), (0, u "(C)[B"), (80, u "serialPersistentFields"), (0, u "[Ljava/io/ObjectStreamField;"), (0, .class_ 1104), (0, u "java/lang/String$CaseInsensitiveComparator"), (1, .class_ 1107), (0, u "java/io/Serializable"), (0, .class_ 1109), (0, u "java/lang/Comparable"), (0, .class_ 1111), (0, u "java/lang/constant/Constable"), (0, .class_ 1113), (0, u "java/lang/constant/ConstantDesc"), (2, u "serialVersionUID"), (0, u "J"), (3, u "REPL"), (0, u "C"), (2, u "LATIN1"), (1, u "UTF16")] 323

def k7m0 : Method := { name := "<init>", desc := "()V", sig := { parameters := [], returnType := none }, accessFlags := 1, code := none }
def k7c1 : Code := { maxStack := 5, maxLocals := 2, code := jdk_42_method_3_code, exceptionTable := #[], attributes := #[] }
def k7m1 : Method := { name := "<init>", desc := "([C)V", sig := { parameters := [(.array .char)], returnType := none }, accessFlags := 1, code := some k7c1 }
def k7c2 : Code := { maxStack := 1, maxLocals := 1, code := jdk_42_method_55_code, exceptionTable := #[], attributes := #[] }
def k7m2 : Method := { name := "isEmpty", desc := "()Z", sig := { parameters := [], returnType := some .boolean }, accessFlags := 1, code := some k7c2 }
def k7c3 : Code := { maxStack := 2, maxLocals := 3, code := jdk_42_method_66_code, exceptionTable := #[], attributes := #[] }
def k7m3 : Method := { name := "equals", desc := "(Ljava/lang/Object;)Z", sig := { parameters := [(.object "java/lang/Object")], returnType := some .boolean }, accessFlags := 1, code := some k7c3 }
def k7c4 : Code := { maxStack := 4, maxLocals := 1, code := jdk_42_method_139_code, exceptionTable := #[], attributes := #[] }
def k7m4 : Method := { name := "valueOf", desc := "(C)Ljava/lang/String;", sig := { parameters := [.char], returnType := some (.object "java/lang/String") }, accessFlags := 9, code := some k7c4 }
def k7c5 : Code := { maxStack := 4, maxLocals := 6, code := jdk_42_method_149_code, exceptionTable := #[], attributes := #[] }
def k7m5 : Method := { name := "<init>", desc := "([CIILjava/lang/Void;)V", sig := { parameters := [(.array .char), .int, .int, (.object "java/lang/Void")], returnType := none }, accessFlags := 2, code := some k7c5 }
def k7c6 : Code := { maxStack := 2, maxLocals := 3, code := jdk_42_method_151_code, exceptionTable := #[], attributes := #[] }
def k7m6 : Method := { name := "<init>", desc := "([BB)V", sig := { parameters := [(.array .byte), .byte], returnType := none }, accessFlags := 0, code := some k7c6 }
/-- java/lang/String -/
def k7 : Class := { plain "java/lang/String" (some 0) with
  accessFlags := 49
  interfaces := #[2, 3, 4, 5, 6]
  cf := some (fileOf pool7 10 #[.nestMembers #[1103]] #[{ accessFlags := 1, nameIndex := 5, descriptorIndex := 6, attributes := #[] }, { accessFlags := 1, nameIndex := 5, descriptorIndex := 1010, attributes := #[] }, { accessFlags := 1, nameIndex := 692, descriptorIndex := 142, attributes := #[] }, { accessFlags := 1, nameIndex := 543, descriptorIndex := 573, attributes := #[] }, { accessFlags := 9, nameIndex := 782, descriptorIndex := 783, attributes := #[] }, { accessFlags := 2, nameIndex := 5, descriptorIndex := 29, attributes := #[] }, { accessFlags := 0, nameIndex := 5, descriptorIndex := 211, attributes := #[] }] 49 2 #[1106, 1108, 575, 1110, 1112] #[{ accessFlags := 18, nameIndex := 13, descriptorIndex := 14, attributes := #[] }, { accessFlags := 18, nameIndex := 17, descriptorIndex := 18, attributes := #[] }, { accessFlags := 2, nameIndex := 21, descriptorIndex := 22, attributes := #[] }, { accessFlags := 2, nameIndex := 25, descriptorIndex := 26, attributes := #[] }, { accessFlags := 26, nameIndex := 1116, descriptorIndex := 1117, attributes := #[] }, { accessFlags := 24, nameIndex := 40, descriptorIndex := 26, attributes := #[] }, { accessFlags := 26, nameIndex := 1101, descriptorIndex := 1102, attributes := #[] }, { accessFlags := 26, nameIndex := 1121, descriptorIndex := 1122, attributes := #[] }, { accessFlags := 25, nameIndex := 599, descriptorIndex := 600, attributes := #[] }, { accessFlags := 24, nameIndex := 1125, descriptorIndex := 18, attributes := #[] }, { accessFlags := 24, nameIndex := 1127, descriptorIndex := 18, attributes := #[] }])
  fields := #[{ name := "value", type := (.array .byte), accessFlags := 18, slot := 0, constantValue := 0 }, { name := "coder", type := .byte, accessFlags := 18, slot := 1, constantValue := 0 }, { name := "hash", type := .int, accessFlags := 2, slot := 2, constantValue := 0 }, { name := "hashIsZero", type := .boolean, accessFlags := 2, slot := 3, constantValue := 0 }, { name := "serialVersionUID", type := .long, accessFlags := 26, slot := 0, constantValue := 0 }, { name := "COMPACT_STRINGS", type := .boolean, accessFlags := 24, slot := 1, constantValue := 0 }, { name := "serialPersistentFields", type := (.array (.object "java/io/ObjectStreamField")), accessFlags := 26, slot := 2, constantValue := 0 }, { name := "REPL", type := .char, accessFlags := 26, slot := 3, constantValue := 0 }, { name := "CASE_INSENSITIVE_ORDER", type := (.object "java/util/Comparator"), accessFlags := 25, slot := 4, constantValue := 0 }, { name := "LATIN1", type := .byte, accessFlags := 24, slot := 5, constantValue := 0 }, { name := "UTF16", type := .byte, accessFlags := 24, slot := 6, constantValue := 0 }]
  methods := #[k7m0, k7m1, k7m2, k7m3, k7m4, k7m5, k7m6]
  instanceTypes := #[(.array .byte), .byte, .int, .boolean]
  staticTypes := #[.long, .boolean, (.array (.object "java/io/ObjectStreamField")), .char, (.object "java/util/Comparator"), .byte, .byte]
  resolved := Array.replicate 1451 none
  statics := some 0 }

def pool8 : Array CpInfo := pool [(6, .class_ 8), (1, u "java/lang/Object"), (0, u "<init>"), (0, u "()V"), (1, .class_ 14), (1, u "java/lang/StringUTF16"), (31, u "$assertionsDisabled"), (0, u "Z"), (13, u "HI_BYTE_SHIFT"), (0, u "I"), (2, u "LO_BYTE_SHIFT"), (49, .methodref 12 116), (0, .nameAndType 117 118), (0, u "compress"), (0, u "([CI[BII)I"), (3, u "([CII)[B"), (138, u "coderFromArrayLen"), (0, u "([BI)B"), (106, .class_ 371), (1, u "java/lang/StringUTF16$LinesSpliterator"), (58, u "MAX_LENGTH"), (196, .class_ 628), (0, u "java/lang/StringUTF16$CodePointsSpliterator"), (0, .class_ 630), (0, u "java/lang/StringUTF16$CharsSpliterator")] 4

def k8m0 : Method := { name := "<init>", desc := "()V", sig := { parameters := [], returnType := none }, accessFlags := 0, code := none }
def k8c1 : Code := { maxStack := 2, maxLocals := 2, code := jdk_52_method_15_code, exceptionTable := #[], attributes := #[] }
def k8m1 : Method := { name := "coderFromArrayLen", desc := "([BI)B", sig := { parameters := [(.array .byte), .int], returnType := some .byte }, accessFlags := 8, code := some k8c1 }
def k8c2 : Code := { maxStack := 5, maxLocals := 6, code := jdk_52_method_16_code, exceptionTable := #[], attributes := #[] }
def k8m2 : Method := { name := "compress", desc := "([CII)[B", sig := { parameters := [(.array .char), .int, .int], returnType := some (.array .byte) }, accessFlags := 9, code := some k8c2 }
def k8c3 : Code := { maxStack := 3, maxLocals := 7, code := jdk_52_method_21_code, exceptionTable := #[], attributes := #[] }
def k8m3 : Method := { name := "compress", desc := "([CI[BII)I", sig := { parameters := [(.array .char), .int, (.array .byte), .int, .int], returnType := some .int }, accessFlags := 9, code := some k8c3 }
/-- java/lang/StringUTF16 -/
def k8 : Class := { plain "java/lang/StringUTF16" (some 0) with
  accessFlags := 48
  interfaces := #[]
  cf := some (fileOf pool8 12 #[.nestMembers #[627, 629, 369]] #[{ accessFlags := 0, nameIndex := 9, descriptorIndex := 10, attributes := #[] }, { accessFlags := 8, nameIndex := 261, descriptorIndex := 262, attributes := #[] }, { accessFlags := 9, nameIndex := 117, descriptorIndex := 122, attributes := #[] }, { accessFlags := 9, nameIndex := 117, descriptorIndex := 118, attributes := #[] }] 48 6 #[] #[{ accessFlags := 26, nameIndex := 61, descriptorIndex := 62, attributes := #[] }, { accessFlags := 26, nameIndex := 65, descriptorIndex := 62, attributes := #[] }, { accessFlags := 24, nameIndex := 430, descriptorIndex := 62, attributes := #[] }, { accessFlags := 4120, nameIndex := 46, descriptorIndex := 47, attributes := #[] }])
  fields := #[{ name := "HI_BYTE_SHIFT", type := .int, accessFlags := 26, slot := 0, constantValue := 0 }, { name := "LO_BYTE_SHIFT", type := .int, accessFlags := 26, slot := 1, constantValue := 0 }, { name := "MAX_LENGTH", type := .int, accessFlags := 24, slot := 2, constantValue := 0 }, { name := "$assertionsDisabled", type := .boolean, accessFlags := 4120, slot := 3, constantValue := 0 }]
  methods := #[k8m0, k8m1, k8m2, k8m3]
  instanceTypes := #[]
  staticTypes := #[.int, .int, .int, .boolean]
  resolved := Array.replicate 635 none
  statics := none }

def pool9 : Array CpInfo := pool [(1, .methodref 2 3), (0, .class_ 4), (0, .nameAndType 5 6), (0, u "java/lang/Object"), (0, u "<init>"), (0, u "()V"), (0, .fieldref 8 9), (0, .class_ 10), (0, .nameAndType 11 12), (0, u "com/example/halysis/halysis/VerifyResult"), (0, u "kind"), (0, u "Lcom/example/halysis/halysis/VerifyResult$Kind;"), (0, .fieldref 8 14), (0, .nameAndType 15 16), (0, u "file"), (0, u "Ljava/nio/file/Path;"), (0, .fieldref 8 18), (0, .nameAndType 19 20), (0, u "line"), (0, u "J"), (0, .fieldref 8 22), (0, .nameAndType 23 24), (0, u "detail"), (0, u "Ljava/lang/String;"), (0, .fieldref 8 26), (0, .nameAndType 27 20), (0, u "records"), (0, .fieldref 8 29), (0, .nameAndType 30 20), (0, u "firstSeq"), (0, .fieldref 8 32), (0, .nameAndType 33 20), (0, u "lastSeq"), (0, .fieldref 8 35), (0, .nameAndType 36 24), (0, u "head"), (0, .string 38), (0, u ""), (0, .methodref 8 40), (0, .nameAndType 5 41), (0, u "(Lcom/example/halysis/halysis/VerifyResult$Kind;Ljava/nio/file/Path;JLjava/lang/String;JJJLjava/lang/String;)V"), (0, .fieldref 43 44), (0, .class_ 45), (0, .nameAndType 46 12), (0, u "com/example/halysis/halysis/VerifyResult$Kind"), (0, u "CHECKPOINT_MISSING"), (6, u "checkpointMissing"), (0, u "(JLjava/lang/String;)Lcom/example/halysis/halysis/VerifyResult;"), (0, u "ok"), (0, u "()Z"), (1, u "()Lcom/example/halysis/halysis/VerifyResult$Kind;"), (0, u "()Ljava/nio/file/Path;"), (0, u "()J"), (0, u "()Ljava/lang/String;")] 5

def k9c0 : Code := { maxStack := 3, maxLocals := 13, code := prog_31_method_1_code, exceptionTable := #[], attributes := #[] }
def k9m0 : Method := { name := "<init>", desc := "(Lcom/example/halysis/halysis/VerifyResult$Kind;Ljava/nio/file/Path;JLjava/lang/String;JJJLjava/lang/String;)V", sig := { parameters := [(.object "com/example/halysis/halysis/VerifyResult$Kind"), (.object "java/nio/file/Path"), .long, (.object "java/lang/String"), .long, .long, .long, (.object "java/lang/String")], returnType := none }, accessFlags := 2, code := some k9c0 }
def k9c1 : Code := { maxStack := 14, maxLocals := 3, code := prog_31_method_4_code, exceptionTable := #[], attributes := #[] }
def k9m1 : Method := { name := "checkpointMissing", desc := "(JLjava/lang/String;)Lcom/example/halysis/halysis/VerifyResult;", sig := { parameters := [.long, (.object "java/lang/String")], returnType := some (.object "com/example/halysis/halysis/VerifyResult") }, accessFlags := 8, code := some k9c1 }
def k9c2 : Code := { maxStack := 1, maxLocals := 1, code := prog_31_method_5_code, exceptionTable := #[], attributes := #[] }
def k9m2 : Method := { name := "ok", desc := "()Z", sig := { parameters := [], returnType := some .boolean }, accessFlags := 1, code := some k9c2 }
def k9c3 : Code := { maxStack := 1, maxLocals := 1, code := prog_31_method_6_code, exceptionTable := #[], attributes := #[] }
def k9m3 : Method := { name := "kind", desc := "()Lcom/example/halysis/halysis/VerifyResult$Kind;", sig := { parameters := [], returnType := some (.object "com/example/halysis/halysis/VerifyResult$Kind") }, accessFlags := 1, code := some k9c3 }
def k9c4 : Code := { maxStack := 1, maxLocals := 1, code := prog_31_method_7_code, exceptionTable := #[], attributes := #[] }
def k9m4 : Method := { name := "file", desc := "()Ljava/nio/file/Path;", sig := { parameters := [], returnType := some (.object "java/nio/file/Path") }, accessFlags := 1, code := some k9c4 }
def k9c5 : Code := { maxStack := 2, maxLocals := 1, code := prog_31_method_8_code, exceptionTable := #[], attributes := #[] }
def k9m5 : Method := { name := "line", desc := "()J", sig := { parameters := [], returnType := some .long }, accessFlags := 1, code := some k9c5 }
def k9c6 : Code := { maxStack := 1, maxLocals := 1, code := prog_31_method_9_code, exceptionTable := #[], attributes := #[] }
def k9m6 : Method := { name := "detail", desc := "()Ljava/lang/String;", sig := { parameters := [], returnType := some (.object "java/lang/String") }, accessFlags := 1, code := some k9c6 }
def k9c7 : Code := { maxStack := 2, maxLocals := 1, code := prog_31_method_10_code, exceptionTable := #[], attributes := #[] }
def k9m7 : Method := { name := "records", desc := "()J", sig := { parameters := [], returnType := some .long }, accessFlags := 1, code := some k9c7 }
def k9c8 : Code := { maxStack := 2, maxLocals := 1, code := prog_31_method_11_code, exceptionTable := #[], attributes := #[] }
def k9m8 : Method := { name := "firstSeq", desc := "()J", sig := { parameters := [], returnType := some .long }, accessFlags := 1, code := some k9c8 }
def k9c9 : Code := { maxStack := 2, maxLocals := 1, code := prog_31_method_12_code, exceptionTable := #[], attributes := #[] }
def k9m9 : Method := { name := "lastSeq", desc := "()J", sig := { parameters := [], returnType := some .long }, accessFlags := 1, code := some k9c9 }
def k9c10 : Code := { maxStack := 1, maxLocals := 1, code := prog_31_method_13_code, exceptionTable := #[], attributes := #[] }
def k9m10 : Method := { name := "head", desc := "()Ljava/lang/String;", sig := { parameters := [], returnType := some (.object "java/lang/String") }, accessFlags := 1, code := some k9c10 }
/-- com/example/halysis/halysis/VerifyResult -/
def k9 : Class := { plain "com/example/halysis/halysis/VerifyResult" (some 0) with
  accessFlags := 49
  interfaces := #[]
  cf := some (fileOf pool9 8 #[.nestMembers #[43]] #[{ accessFlags := 2, nameIndex := 5, descriptorIndex := 41, attributes := #[] }, { accessFlags := 8, nameIndex := 53, descriptorIndex := 54, attributes := #[] }, { accessFlags := 1, nameIndex := 55, descriptorIndex := 56, attributes := #[] }, { accessFlags := 1, nameIndex := 11, descriptorIndex := 58, attributes := #[] }, { accessFlags := 1, nameIndex := 15, descriptorIndex := 59, attributes := #[] }, { accessFlags := 1, nameIndex := 19, descriptorIndex := 60, attributes := #[] }, { accessFlags := 1, nameIndex := 23, descriptorIndex := 61, attributes := #[] }, { accessFlags := 1, nameIndex := 27, descriptorIndex := 60, attributes := #[] }, { accessFlags := 1, nameIndex := 30, descriptorIndex := 60, attributes := #[] }, { accessFlags := 1, nameIndex := 33, descriptorIndex := 60, attributes := #[] }, { accessFlags := 1, nameIndex := 36, descriptorIndex := 61, attributes := #[] }] 49 2 #[] #[{ accessFlags := 18, nameIndex := 11, descriptorIndex := 12, attributes := #[] }, { accessFlags := 18, nameIndex := 15, descriptorIndex := 16, attributes := #[] }, { accessFlags := 18, nameIndex := 19, descriptorIndex := 20, attributes := #[] }, { accessFlags := 18, nameIndex := 23, descriptorIndex := 24, attributes := #[] }, { accessFlags := 18, nameIndex := 27, descriptorIndex := 20, attributes := #[] }, { accessFlags := 18, nameIndex := 30, descriptorIndex := 20, attributes := #[] }, { accessFlags := 18, nameIndex := 33, descriptorIndex := 20, attributes := #[] }, { accessFlags := 18, nameIndex := 36, descriptorIndex := 24, attributes := #[] }])
  fields := #[{ name := "kind", type := (.object "com/example/halysis/halysis/VerifyResult$Kind"), accessFlags := 18, slot := 0, constantValue := 0 }, { name := "file", type := (.object "java/nio/file/Path"), accessFlags := 18, slot := 1, constantValue := 0 }, { name := "line", type := .long, accessFlags := 18, slot := 2, constantValue := 0 }, { name := "detail", type := (.object "java/lang/String"), accessFlags := 18, slot := 3, constantValue := 0 }, { name := "records", type := .long, accessFlags := 18, slot := 4, constantValue := 0 }, { name := "firstSeq", type := .long, accessFlags := 18, slot := 5, constantValue := 0 }, { name := "lastSeq", type := .long, accessFlags := 18, slot := 6, constantValue := 0 }, { name := "head", type := (.object "java/lang/String"), accessFlags := 18, slot := 7, constantValue := 0 }]
  methods := #[k9m0, k9m1, k9m2, k9m3, k9m4, k9m5, k9m6, k9m7, k9m8, k9m9, k9m10]
  instanceTypes := #[(.object "com/example/halysis/halysis/VerifyResult$Kind"), (.object "java/nio/file/Path"), .long, (.object "java/lang/String"), .long, .long, .long, (.object "java/lang/String")]
  staticTypes := #[]
  resolved := Array.replicate 67 none
  statics := none }

def pool10 : Array CpInfo := pool [(2, .class_ 4), (1, u "java/lang/Enum"), (0, u "name"), (0, u "Ljava/lang/String;"), (2, u "ordinal"), (0, u "I"), (1, .class_ 14), (1, u "java/lang/Object"), (4, u "hash"), (86, .class_ 108), (1, u "java/lang/Enum$EnumDesc"), (2, .class_ 112), (0, u "java/lang/constant/Constable"), (0, .class_ 114), (0, u "java/lang/Comparable"), (0, .class_ 116), (0, u "java/io/Serializable")] 87

/-- java/lang/Enum -/
def k10 : Class := { plain "java/lang/Enum" (some 0) with
  accessFlags := 1057
  interfaces := #[5, 3, 2]
  cf := some (fileOf pool10 2 #[.nestMembers #[106]] #[] 1057 12 #[111, 113, 115] #[{ accessFlags := 18, nameIndex := 5, descriptorIndex := 6, attributes := #[] }, { accessFlags := 18, nameIndex := 9, descriptorIndex := 10, attributes := #[] }, { accessFlags := 2, nameIndex := 19, descriptorIndex := 10, attributes := #[] }])
  fields := #[{ name := "name", type := (.object "java/lang/String"), accessFlags := 18, slot := 0, constantValue := 0 }, { name := "ordinal", type := .int, accessFlags := 18, slot := 1, constantValue := 0 }, { name := "hash", type := .int, accessFlags := 2, slot := 2, constantValue := 0 }]
  methods := #[]
  instanceTypes := #[(.object "java/lang/String"), .int, .int]
  staticTypes := #[]
  resolved := Array.replicate 204 none
  statics := none }

def pool11 : Array CpInfo := pool [(1, .class_ 2), (0, u "com/example/halysis/halysis/VerifyResult$Kind"), (2, u "MISSING"), (0, u "Lcom/example/halysis/halysis/VerifyResult$Kind;"), (2, u "EMPTY"), (2, u "TORN_TAIL"), (2, u "NOT_A_RECORD"), (2, u "HASH_MISMATCH"), (2, u "NOT_ANCHORED"), (2, u "BAD_SEQUENCE"), (2, u "BROKEN_LINK"), (2, u "CHECKPOINT_MISSING"), (2, u "CHECKPOINT_MISMATCH"), (2, u "TRUNCATED"), (2, u "$VALUES"), (0, u "[Lcom/example/halysis/halysis/VerifyResult$Kind;"), (6, .class_ 49), (1, u "java/lang/Enum"), (8, u "label"), (0, u "Ljava/lang/String;"), (54, .class_ 115), (0, u "com/example/halysis/halysis/VerifyResult")] 2

/-- com/example/halysis/halysis/VerifyResult$Kind -/
def k11 : Class := { plain "com/example/halysis/halysis/VerifyResult$Kind" (some 10) with
  accessFlags := 16433
  interfaces := #[]
  cf := some (fileOf pool11 1 #[.nestHost 114] #[] 16433 47 #[] #[{ accessFlags := 16409, nameIndex := 5, descriptorIndex := 6, attributes := #[] }, { accessFlags := 16409, nameIndex := 9, descriptorIndex := 6, attributes := #[] }, { accessFlags := 16409, nameIndex := 12, descriptorIndex := 6, attributes := #[] }, { accessFlags := 16409, nameIndex := 15, descriptorIndex := 6, attributes := #[] }, { accessFlags := 16409, nameIndex := 18, descriptorIndex := 6, attributes := #[] }, { accessFlags := 16409, nameIndex := 21, descriptorIndex := 6, attributes := #[] }, { accessFlags := 16409, nameIndex := 24, descriptorIndex := 6, attributes := #[] }, { accessFlags := 16409, nameIndex := 27, descriptorIndex := 6, attributes := #[] }, { accessFlags := 16409, nameIndex := 30, descriptorIndex := 6, attributes := #[] }, { accessFlags := 16409, nameIndex := 33, descriptorIndex := 6, attributes := #[] }, { accessFlags := 16409, nameIndex := 36, descriptorIndex := 6, attributes := #[] }, { accessFlags := 18, nameIndex := 58, descriptorIndex := 59, attributes := #[] }, { accessFlags := 4122, nameIndex := 39, descriptorIndex := 40, attributes := #[] }])
  fields := #[{ name := "MISSING", type := (.object "com/example/halysis/halysis/VerifyResult$Kind"), accessFlags := 16409, slot := 0, constantValue := 0 }, { name := "EMPTY", type := (.object "com/example/halysis/halysis/VerifyResult$Kind"), accessFlags := 16409, slot := 1, constantValue := 0 }, { name := "TORN_TAIL", type := (.object "com/example/halysis/halysis/VerifyResult$Kind"), accessFlags := 16409, slot := 2, constantValue := 0 }, { name := "NOT_A_RECORD", type := (.object "com/example/halysis/halysis/VerifyResult$Kind"), accessFlags := 16409, slot := 3, constantValue := 0 }, { name := "HASH_MISMATCH", type := (.object "com/example/halysis/halysis/VerifyResult$Kind"), accessFlags := 16409, slot := 4, constantValue := 0 }, { name := "NOT_ANCHORED", type := (.object "com/example/halysis/halysis/VerifyResult$Kind"), accessFlags := 16409, slot := 5, constantValue := 0 }, { name := "BAD_SEQUENCE", type := (.object "com/example/halysis/halysis/VerifyResult$Kind"), accessFlags := 16409, slot := 6, constantValue := 0 }, { name := "BROKEN_LINK", type := (.object "com/example/halysis/halysis/VerifyResult$Kind"), accessFlags := 16409, slot := 7, constantValue := 0 }, { name := "CHECKPOINT_MISSING", type := (.object "com/example/halysis/halysis/VerifyResult$Kind"), accessFlags := 16409, slot := 8, constantValue := 0 }, { name := "CHECKPOINT_MISMATCH", type := (.object "com/example/halysis/halysis/VerifyResult$Kind"), accessFlags := 16409, slot := 9, constantValue := 0 }, { name := "TRUNCATED", type := (.object "com/example/halysis/halysis/VerifyResult$Kind"), accessFlags := 16409, slot := 10, constantValue := 0 }, { name := "label", type := (.object "java/lang/String"), accessFlags := 18, slot := 3, constantValue := 0 }, { name := "$VALUES", type := (.array (.object "com/example/halysis/halysis/VerifyResult$Kind")), accessFlags := 4122, slot := 11, constantValue := 0 }]
  methods := #[]
  instanceTypes := #[(.object "java/lang/String"), .int, .int, (.object "java/lang/String")]
  staticTypes := #[(.object "com/example/halysis/halysis/VerifyResult$Kind"), (.object "com/example/halysis/halysis/VerifyResult$Kind"), (.object "com/example/halysis/halysis/VerifyResult$Kind"), (.object "com/example/halysis/halysis/VerifyResult$Kind"), (.object "com/example/halysis/halysis/VerifyResult$Kind"), (.object "com/example/halysis/halysis/VerifyResult$Kind"), (.object "com/example/halysis/halysis/VerifyResult$Kind"), (.object "com/example/halysis/halysis/VerifyResult$Kind"), (.object "com/example/halysis/halysis/VerifyResult$Kind"), (.object "com/example/halysis/halysis/VerifyResult$Kind"), (.object "com/example/halysis/halysis/VerifyResult$Kind"), (.array (.object "com/example/halysis/halysis/VerifyResult$Kind"))]
  resolved := Array.replicate 118 none
  statics := some 1 }

def pool12 : Array CpInfo := pool [(4, .class_ 6), (1, u "java/lang/Object"), (0, u "<init>"), (0, u "()V"), (5, .class_ 16), (1, u "java/lang/StringLatin1"), (73, u "canEncode"), (14, u "(C)Z"), (15, u "$assertionsDisabled"), (0, u "Z"), (98, .class_ 223), (1, u "java/lang/StringLatin1$LinesSpliterator"), (156, u "toBytes"), (1, u "(C)[B"), (7, .class_ 391), (0, u "java/lang/StringLatin1$CharsSpliterator")] 3

def k12m0 : Method := { name := "<init>", desc := "()V", sig := { parameters := [], returnType := none }, accessFlags := 0, code := none }
def k12c1 : Code := { maxStack := 2, maxLocals := 1, code := jdk_43_method_3_code, exceptionTable := #[], attributes := #[] }
def k12m1 : Method := { name := "canEncode", desc := "(C)Z", sig := { parameters := [.char], returnType := some .boolean }, accessFlags := 9, code := some k12c1 }
def k12c2 : Code := { maxStack := 4, maxLocals := 1, code := jdk_43_method_46_code, exceptionTable := #[], attributes := #[] }
def k12m2 : Method := { name := "toBytes", desc := "(C)[B", sig := { parameters := [.char], returnType := some (.array .byte) }, accessFlags := 9, code := some k12c2 }
/-- java/lang/StringLatin1 -/
def k12 : Class := { plain "java/lang/StringLatin1" (some 0) with
  accessFlags := 48
  interfaces := #[]
  cf := some (fileOf pool12 14 #[.nestMembers #[390, 221]] #[{ accessFlags := 0, nameIndex := 7, descriptorIndex := 8, attributes := #[] }, { accessFlags := 9, nameIndex := 90, descriptorIndex := 105, attributes := #[] }, { accessFlags := 9, nameIndex := 380, descriptorIndex := 382, attributes := #[] }] 48 4 #[] #[{ accessFlags := 4120, nameIndex := 121, descriptorIndex := 122, attributes := #[] }])
  fields := #[{ name := "$assertionsDisabled", type := .boolean, accessFlags := 4120, slot := 0, constantValue := 0 }]
  methods := #[k12m0, k12m1, k12m2]
  instanceTypes := #[]
  staticTypes := #[.boolean]
  resolved := Array.replicate 395 none
  statics := none }

def pool13 : Array CpInfo := pool [(2, .class_ 4), (1, u "java/lang/Object"), (0, u "<init>"), (0, u "()V"), (17, .class_ 26), (1, u "jdk/internal/util/Preconditions"), (28, .class_ 56), (0, u "jdk/internal/util/Preconditions$4"), (57, .class_ 115), (0, u "jdk/internal/util/Preconditions$1"), (7, u "SIOOBE_FORMATTER"), (0, u "Ljava/util/function/BiFunction;"), (0, .class_ 126), (0, u "jdk/internal/util/Preconditions$2"), (3, u "AIOOBE_FORMATTER"), (0, .class_ 132), (0, u "jdk/internal/util/Preconditions$3"), (3, u "IOOBE_FORMATTER")] 57

def k13m0 : Method := { name := "<init>", desc := "()V", sig := { parameters := [], returnType := none }, accessFlags := 1, code := none }
/-- jdk/internal/util/Preconditions -/
def k13 : Class := { plain "jdk/internal/util/Preconditions" (some 0) with
  accessFlags := 33
  interfaces := #[]
  cf := some (fileOf pool13 24 #[.nestMembers #[55, 131, 125, 114]] #[{ accessFlags := 1, nameIndex := 5, descriptorIndex := 6, attributes := #[] }] 33 2 #[] #[{ accessFlags := 25, nameIndex := 123, descriptorIndex := 124, attributes := #[] }, { accessFlags := 25, nameIndex := 130, descriptorIndex := 124, attributes := #[] }, { accessFlags := 25, nameIndex := 136, descriptorIndex := 124, attributes := #[] }])
  fields := #[{ name := "SIOOBE_FORMATTER", type := (.object "java/util/function/BiFunction"), accessFlags := 25, slot := 0, constantValue := 0 }, { name := "AIOOBE_FORMATTER", type := (.object "java/util/function/BiFunction"), accessFlags := 25, slot := 1, constantValue := 0 }, { name := "IOOBE_FORMATTER", type := (.object "java/util/function/BiFunction"), accessFlags := 25, slot := 2, constantValue := 0 }]
  methods := #[k13m0]
  instanceTypes := #[]
  staticTypes := #[(.object "java/util/function/BiFunction"), (.object "java/util/function/BiFunction"), (.object "java/util/function/BiFunction")]
  resolved := Array.replicate 194 none
  statics := some 2 }

def pool14 : Array CpInfo := pool [(9, u "<init>"), (6, .class_ 18), (1, u "java/lang/Object"), (0, u "()V"), (1, .class_ 23), (1, u "jdk/internal/util/ArraysSupport"), (0, u "LOG2_ARRAY_LONG_INDEX_SCALE"), (0, u "I"), (2, u "U"), (0, u "Ljdk/internal/misc/Unsafe;"), (8, u "BIG_ENDIAN"), (0, u "Z"), (8, u "LOG2_BYTE_BIT_SIZE"), (4, u "LOG2_ARRAY_INT_INDEX_SCALE"), (54, u "JLA"), (0, u "Ljdk/internal/access/JavaLangAccess;"), (11, u "LOG2_ARRAY_BOOLEAN_INDEX_SCALE"), (9, u "LOG2_ARRAY_BYTE_INDEX_SCALE"), (5, u "LOG2_ARRAY_CHAR_INDEX_SCALE"), (5, u "LOG2_ARRAY_SHORT_INDEX_SCALE"), (18, u "LOG2_ARRAY_FLOAT_INDEX_SCALE"), (24, u "LOG2_ARRAY_DOUBLE_INDEX_SCALE"), (89, u "T_BOOLEAN"), (2, u "T_CHAR"), (1, u "T_FLOAT"), (1, u "T_DOUBLE"), (1, u "T_BYTE"), (1, u "T_SHORT"), (1, u "T_INT"), (1, u "T_LONG"), (1, u "SOFT_MAX_ARRAY_LENGTH")] 83

def k14m0 : Method := { name := "<init>", desc := "()V", sig := { parameters := [], returnType := none }, accessFlags := 2, code := none }
/-- jdk/internal/util/ArraysSupport -/
def k14 : Class := { plain "jdk/internal/util/ArraysSupport" (some 0) with
  accessFlags := 33
  interfaces := #[]
  cf := some (fileOf pool14 21 #[] #[{ accessFlags := 2, nameIndex := 9, descriptorIndex := 19, attributes := #[] }] 33 16 #[] #[{ accessFlags := 24, nameIndex := 28, descriptorIndex := 29, attributes := #[] }, { accessFlags := 26, nameIndex := 38, descriptorIndex := 39, attributes := #[] }, { accessFlags := 25, nameIndex := 121, descriptorIndex := 25, attributes := #[] }, { accessFlags := 25, nameIndex := 131, descriptorIndex := 25, attributes := #[] }, { accessFlags := 25, nameIndex := 137, descriptorIndex := 25, attributes := #[] }, { accessFlags := 25, nameIndex := 143, descriptorIndex := 25, attributes := #[] }, { accessFlags := 25, nameIndex := 53, descriptorIndex := 25, attributes := #[] }, { accessFlags := 25, nameIndex := 24, descriptorIndex := 25, attributes := #[] }, { accessFlags := 25, nameIndex := 162, descriptorIndex := 25, attributes := #[] }, { accessFlags := 25, nameIndex := 187, descriptorIndex := 25, attributes := #[] }, { accessFlags := 26, nameIndex := 48, descriptorIndex := 25, attributes := #[] }, { accessFlags := 25, nameIndex := 277, descriptorIndex := 25, attributes := #[] }, { accessFlags := 25, nameIndex := 280, descriptorIndex := 25, attributes := #[] }, { accessFlags := 25, nameIndex := 282, descriptorIndex := 25, attributes := #[] }, { accessFlags := 25, nameIndex := 284, descriptorIndex := 25, attributes := #[] }, { accessFlags := 25, nameIndex := 286, descriptorIndex := 25, attributes := #[] }, { accessFlags := 25, nameIndex := 288, descriptorIndex := 25, attributes := #[] }, { accessFlags := 25, nameIndex := 290, descriptorIndex := 25, attributes := #[] }, { accessFlags := 25, nameIndex := 292, descriptorIndex := 25, attributes := #[] }, { accessFlags := 26, nameIndex := 108, descriptorIndex := 109, attributes := #[] }, { accessFlags := 25, nameIndex := 294, descriptorIndex := 25, attributes := #[] }])
  fields := #[{ name := "U", type := (.object "jdk/internal/misc/Unsafe"), accessFlags := 24, slot := 0, constantValue := 0 }, { name := "BIG_ENDIAN", type := .boolean, accessFlags := 26, slot := 1, constantValue := 0 }, { name := "LOG2_ARRAY_BOOLEAN_INDEX_SCALE", type := .int, accessFlags := 25, slot := 2, constantValue := 0 }, { name := "LOG2_ARRAY_BYTE_INDEX_SCALE", type := .int, accessFlags := 25, slot := 3, constantValue := 0 }, { name := "LOG2_ARRAY_CHAR_INDEX_SCALE", type := .int, accessFlags := 25, slot := 4, constantValue := 0 }, { name := "LOG2_ARRAY_SHORT_INDEX_SCALE", type := .int, accessFlags := 25, slot := 5, constantValue := 0 }, { name := "LOG2_ARRAY_INT_INDEX_SCALE", type := .int, accessFlags := 25, slot := 6, constantValue := 0 }, { name := "LOG2_ARRAY_LONG_INDEX_SCALE", type := .int, accessFlags := 25, slot := 7, constantValue := 0 }, { name := "LOG2_ARRAY_FLOAT_INDEX_SCALE", type := .int, accessFlags := 25, slot := 8, constantValue := 0 }, { name := "LOG2_ARRAY_DOUBLE_INDEX_SCALE", type := .int, accessFlags := 25, slot := 9, constantValue := 0 }, { name := "LOG2_BYTE_BIT_SIZE", type := .int, accessFlags := 26, slot := 10, constantValue := 0 }, { name := "T_BOOLEAN", type := .int, accessFlags := 25, slot := 11, constantValue := 0 }, { name := "T_CHAR", type := .int, accessFlags := 25, slot := 12, constantValue := 0 }, { name := "T_FLOAT", type := .int, accessFlags := 25, slot := 13, constantValue := 0 }, { name := "T_DOUBLE", type := .int, accessFlags := 25, slot := 14, constantValue := 0 }, { name := "T_BYTE", type := .int, accessFlags := 25, slot := 15, constantValue := 0 }, { name := "T_SHORT", type := .int, accessFlags := 25, slot := 16, constantValue := 0 }, { name := "T_INT", type := .int, accessFlags := 25, slot := 17, constantValue := 0 }, { name := "T_LONG", type := .int, accessFlags := 25, slot := 18, constantValue := 0 }, { name := "JLA", type := (.object "jdk/internal/access/JavaLangAccess"), accessFlags := 26, slot := 19, constantValue := 0 }, { name := "SOFT_MAX_ARRAY_LENGTH", type := .int, accessFlags := 25, slot := 20, constantValue := 0 }]
  methods := #[k14m0]
  instanceTypes := #[]
  staticTypes := #[(.object "jdk/internal/misc/Unsafe"), .boolean, .int, .int, .int, .int, .int, .int, .int, .int, .int, .int, .int, .int, .int, .int, .int, .int, .int, (.object "jdk/internal/access/JavaLangAccess"), .int]
  resolved := Array.replicate 378 none
  statics := none }

def pool15 : Array CpInfo := pool [(1, u "java/lang/Cloneable"), (0, .class_ 1), (0, u "java/lang/Object"), (0, .class_ 3)] 3

/-- java/lang/Cloneable -/
def k15 : Class := { plain "java/lang/Cloneable" (some 0) with
  accessFlags := 1537
  interfaces := #[]
  cf := some (fileOf pool15 2 #[] #[] 1537 4 #[] #[])
  fields := #[]
  methods := #[]
  instanceTypes := #[]
  staticTypes := #[]
  resolved := Array.replicate 8 none
  statics := none }

/-- the primitive byte -/
def k16 : Class := { plain "byte" none with kind := .primitive 'B', accessFlags := 0x411 }
/-- [B -/
def k17 : Class := { plain "[B" (some 0) with kind := .array 16 .byte, interfaces := #[15, 2], accessFlags := 1041 }

/-- the primitive char -/
def k18 : Class := { plain "char" none with kind := .primitive 'C', accessFlags := 0x411 }
/-- [C -/
def k19 : Class := { plain "[C" (some 0) with kind := .array 18 .char, interfaces := #[15, 2], accessFlags := 1041 }

/-- the primitive int -/
def k20 : Class := { plain "int" none with kind := .primitive 'I', accessFlags := 0x411 }
/-- [I -/
def k21 : Class := { plain "[I" (some 0) with kind := .array 20 .int, interfaces := #[15, 2], accessFlags := 1041 }

def heap : Heap := #[{ cls := 7, slots := #[.long 0, .int 1, .null, .int 0, .null, .int 0, .int 0], vm := .statics 7 },
  { cls := 11, slots := #[.null, .null, .null, .null, .null, .null, .null, .null, .ref 3, .null, .null, .null], vm := .statics 11 },
  { cls := 13, slots := #[.null, .null, .null], vm := .statics 13 },
  { cls := 11, slots := #[.null, .int 1, .int 0, .null], vm := .none }]
def classes : Array Class := #[k0, k1, k2, k3, k4, k5, k6, k7, k8, k9, k10, k11, k12, k13, k14, k15, k16, k17, k18, k19, k20, k21]
def interned : List (Array UInt16 × Addr) := []
def slotsUsed : Nat := 26
def theMethod : MethodId := ⟨1, 1⟩
def args0 : Array Value := #[.long 7, .int 5, .int 6]
def aboutOver (below : List Frame) : State where
  vm := { classes := classes, interned := interned.toArray }
  heap := heap
  slotsUsed := slotsUsed
  threads := #[{ frames := .invoking theMethod args0 :: below }]
def below0 : List Frame := [.native { method := ⟨0, 0⟩, args := #[] }]
def about1 : State := aboutOver below0
def p0 : Program := .bare "" "" ""
def e0 : Env := launch0.env 0 0 0
theorem w_frames : about1.frames = Frame.invoking theMethod args0 :: below0 := rfl
set_option maxRecDepth 65536 in
theorem w_args : argsFit about1.vm theMethod args0 = true := by decide +kernel
set_option maxRecDepth 65536 in
theorem w_heap : heapFits about1 = true := by decide +kernel
set_option maxRecDepth 65536 in
theorem w_runnable : about1.curStatus? = some .runnable := by decide +kernel
set_option maxRecDepth 65536 in
theorem w_alone : about1.alone = true := by decide +kernel
set_option maxRecDepth 65536 in
theorem w_named : about1.methodNamed? x = some theMethod := by decide +kernel
set_option maxRecDepth 65536 in
theorem w_hears : about1.hears theMethod below0 = true := by decide +kernel
set_option maxRecDepth 65536 in
theorem w_ripe : about1.ripe theMethod args0 below0 = true := by decide +kernel
theorem w_running : about1.status = .running := rfl
set_option maxRecDepth 65536 in
theorem w_room : about1.hasRoom e0.platform room_1 = true :=
  launch0.hasRoom_least _ room_1 (by decide +kernel) (by decide +kernel) (by decide +kernel) (by decide +kernel) (by decide +kernel) (by decide +kernel)
theorem allAtoms_all (ts : List Jvm.Cond) (a : Array Jvm.Value) (st : Jvm.State) : (allAtoms ts).before a st = ts.all (fun c => c.before a st) := by
  induction ts with
  | nil => rfl
  | cons c t ih =>
    show (Jvm.Cond.and c (allAtoms t)).before a st = _
    rw [Jvm.Cond.before_and, ih, List.all_cons]
def words1 : List Jvm.Cond := Jvm.Cond.code x code maxLocals ret :: tables_1
/-- a 'code' word, met by the world's own term for the bytes: nothing is compared byte by byte -/
theorem code_word {y : MethodName} {bytes : ByteArray} {mx : Nat} {rt : Option FieldType} {a : Array Value} {s : State} {m : MethodId} {meth : Method} {c : Code} (h1 : s.methodNamed? y = some m) (h2 : s.vm.method? m = some meth) (h3 : meth.code = some c) (h4 : c.code = bytes)
    (h5 : (c.maxLocals == mx && c.exceptionTable.isEmpty && decide (c.maxStack ≤ mostOperands) && decide (meth.sig.returnType = rt) && !meth.locks && decide (parseMethodDescriptor y.desc = some meth.sig)) = true) : (Jvm.Cond.code y bytes mx rt).before a s = true := by
  simp only [Bool.and_eq_true, beq_iff_eq, Bool.not_eq_true', decide_eq_true_eq] at h5
  obtain ⟨⟨⟨⟨⟨g1, g2⟩, g3⟩, g4⟩, g5⟩, g6⟩ := h5
  simp [Cond.before, Cond.holds, Cond.value, h1, h2, h3, h4, g1, g2, g3, g4, g5, g6]
def isCode : Jvm.Cond → Bool
  | .code _ _ _ _ => true
  | _ => false
theorem all_split {L : List Jvm.Cond} {P : Jvm.Cond → Bool} (h1 : L.all (fun c => isCode c || P c) = true) (h2 : ∀ c ∈ L.filter isCode, P c = true) : L.all P = true := by
  refine List.all_eq_true.mpr fun c hc => ?_
  have h := List.all_eq_true.mp h1 c hc
  rcases Bool.eq_false_or_eq_true (isCode c) with hi | hi
  · exact h2 c (List.mem_filter.mpr ⟨hc, hi⟩)
  · simpa [hi] using h
set_option maxRecDepth 65536 in
theorem w_c0 : (Jvm.Cond.code x code maxLocals ret).before args0 about1 = true := code_word (m := ⟨1, 1⟩) (meth := k1m1) (c := k1c1) (by decide +kernel) rfl rfl rfl (by decide +kernel)
set_option maxRecDepth 65536 in
theorem w_c1 : (Jvm.Cond.code ({ cls := "java/lang/String", name := "<init>", desc := "([C)V" } : Jvm.MethodName) jdk_42_method_3_code (2 : Nat) (Option.none : Option Jvm.ClassFile.FieldType)).before args0 about1 = true := code_word (m := ⟨7, 1⟩) (meth := k7m1) (c := k7c1) (by decide +kernel) rfl rfl rfl (by decide +kernel)
set_option maxRecDepth 65536 in
theorem w_c2 : (Jvm.Cond.code ({ cls := "java/lang/String", name := "<init>", desc := "([CIILjava/lang/Void;)V" } : Jvm.MethodName) jdk_42_method_149_code (6 : Nat) (Option.none : Option Jvm.ClassFile.FieldType)).before args0 about1 = true := code_word (m := ⟨7, 5⟩) (meth := k7m5) (c := k7c5) (by decide +kernel) rfl rfl rfl (by decide +kernel)
set_option maxRecDepth 65536 in
theorem w_c3 : (Jvm.Cond.code ({ cls := "java/lang/Object", name := "<init>", desc := "()V" } : Jvm.MethodName) object_method_1_code (1 : Nat) (Option.none : Option Jvm.ClassFile.FieldType)).before args0 about1 = true := code_word (m := ⟨0, 0⟩) (meth := k0m0) (c := k0c0) (by decide +kernel) rfl rfl rfl (by decide +kernel)
set_option maxRecDepth 65536 in
theorem w_c4 : (Jvm.Cond.code ({ cls := "java/lang/StringUTF16", name := "compress", desc := "([CII)[B" } : Jvm.MethodName) jdk_52_method_16_code (6 : Nat) (Option.some (Jvm.ClassFile.FieldType.array Jvm.ClassFile.FieldType.byte))).before args0 about1 = true := code_word (m := ⟨8, 2⟩) (meth := k8m2) (c := k8c2) (by decide +kernel) rfl rfl rfl (by decide +kernel)
set_option maxRecDepth 65536 in
theorem w_c5 : (Jvm.Cond.code ({ cls := "java/lang/StringUTF16", name := "compress", desc := "([CI[BII)I" } : Jvm.MethodName) jdk_52_method_21_code (7 : Nat) (Option.some Jvm.ClassFile.FieldType.int)).before args0 about1 = true := code_word (m := ⟨8, 3⟩) (meth := k8m3) (c := k8c3) (by decide +kernel) rfl rfl rfl (by decide +kernel)
set_option maxRecDepth 65536 in
theorem w_c6 : (Jvm.Cond.code ({ cls := "java/lang/StringUTF16", name := "coderFromArrayLen", desc := "([BI)B" } : Jvm.MethodName) jdk_52_method_15_code (2 : Nat) (Option.some Jvm.ClassFile.FieldType.byte)).before args0 about1 = true := code_word (m := ⟨8, 1⟩) (meth := k8m1) (c := k8c1) (by decide +kernel) rfl rfl rfl (by decide +kernel)
set_option maxRecDepth 65536 in
theorem w_c7 : (Jvm.Cond.code ({ cls := "com/example/halysis/halysis/VerifyResult", name := "checkpointMissing", desc := "(JLjava/lang/String;)Lcom/example/halysis/halysis/VerifyResult;" } : Jvm.MethodName) prog_31_method_4_code (3 : Nat) (Option.some (Jvm.ClassFile.FieldType.object "com/example/halysis/halysis/VerifyResult"))).before args0 about1 = true := code_word (m := ⟨9, 1⟩) (meth := k9m1) (c := k9c1) (by decide +kernel) rfl rfl rfl (by decide +kernel)
set_option maxRecDepth 65536 in
theorem w_c8 : (Jvm.Cond.code ({ cls := "com/example/halysis/halysis/VerifyResult", name := "<init>", desc := "(Lcom/example/halysis/halysis/VerifyResult$Kind;Ljava/nio/file/Path;JLjava/lang/String;JJJLjava/lang/String;)V" } : Jvm.MethodName) prog_31_method_1_code (13 : Nat) (Option.none : Option Jvm.ClassFile.FieldType)).before args0 about1 = true := code_word (m := ⟨9, 0⟩) (meth := k9m0) (c := k9c0) (by decide +kernel) rfl rfl rfl (by decide +kernel)
set_option maxRecDepth 65536 in
theorem w_c9 : (Jvm.Cond.code ({ cls := "com/example/halysis/halysis/VerifyResult", name := "ok", desc := "()Z" } : Jvm.MethodName) prog_31_method_5_code (1 : Nat) (Option.some Jvm.ClassFile.FieldType.boolean)).before args0 about1 = true := code_word (m := ⟨9, 2⟩) (meth := k9m2) (c := k9c2) (by decide +kernel) rfl rfl rfl (by decide +kernel)
set_option maxRecDepth 65536 in
theorem w_c10 : (Jvm.Cond.code ({ cls := "com/example/halysis/halysis/VerifyResult", name := "kind", desc := "()Lcom/example/halysis/halysis/VerifyResult$Kind;" } : Jvm.MethodName) prog_31_method_6_code (1 : Nat) (Option.some (Jvm.ClassFile.FieldType.object "com/example/halysis/halysis/VerifyResult$Kind"))).before args0 about1 = true := code_word (m := ⟨9, 3⟩) (meth := k9m3) (c := k9c3) (by decide +kernel) rfl rfl rfl (by decide +kernel)
set_option maxRecDepth 65536 in
theorem w_c11 : (Jvm.Cond.code ({ cls := "com/example/halysis/halysis/VerifyResult", name := "file", desc := "()Ljava/nio/file/Path;" } : Jvm.MethodName) prog_31_method_7_code (1 : Nat) (Option.some (Jvm.ClassFile.FieldType.object "java/nio/file/Path"))).before args0 about1 = true := code_word (m := ⟨9, 4⟩) (meth := k9m4) (c := k9c4) (by decide +kernel) rfl rfl rfl (by decide +kernel)
set_option maxRecDepth 65536 in
theorem w_c12 : (Jvm.Cond.code ({ cls := "com/example/halysis/halysis/VerifyResult", name := "line", desc := "()J" } : Jvm.MethodName) prog_31_method_8_code (1 : Nat) (Option.some Jvm.ClassFile.FieldType.long)).before args0 about1 = true := code_word (m := ⟨9, 5⟩) (meth := k9m5) (c := k9c5) (by decide +kernel) rfl rfl rfl (by decide +kernel)
set_option maxRecDepth 65536 in
theorem w_c13 : (Jvm.Cond.code ({ cls := "com/example/halysis/halysis/VerifyResult", name := "detail", desc := "()Ljava/lang/String;" } : Jvm.MethodName) prog_31_method_9_code (1 : Nat) (Option.some (Jvm.ClassFile.FieldType.object "java/lang/String"))).before args0 about1 = true := code_word (m := ⟨9, 6⟩) (meth := k9m6) (c := k9c6) (by decide +kernel) rfl rfl rfl (by decide +kernel)
set_option maxRecDepth 65536 in
theorem w_c14 : (Jvm.Cond.code ({ cls := "java/lang/String", name := "equals", desc := "(Ljava/lang/Object;)Z" } : Jvm.MethodName) jdk_42_method_66_code (3 : Nat) (Option.some Jvm.ClassFile.FieldType.boolean)).before args0 about1 = true := code_word (m := ⟨7, 3⟩) (meth := k7m3) (c := k7c3) (by decide +kernel) rfl rfl rfl (by decide +kernel)
set_option maxRecDepth 65536 in
theorem w_c15 : (Jvm.Cond.code ({ cls := "com/example/halysis/halysis/VerifyResult", name := "records", desc := "()J" } : Jvm.MethodName) prog_31_method_10_code (1 : Nat) (Option.some Jvm.ClassFile.FieldType.long)).before args0 about1 = true := code_word (m := ⟨9, 7⟩) (meth := k9m7) (c := k9c7) (by decide +kernel) rfl rfl rfl (by decide +kernel)
set_option maxRecDepth 65536 in
theorem w_c16 : (Jvm.Cond.code ({ cls := "com/example/halysis/halysis/VerifyResult", name := "firstSeq", desc := "()J" } : Jvm.MethodName) prog_31_method_11_code (1 : Nat) (Option.some Jvm.ClassFile.FieldType.long)).before args0 about1 = true := code_word (m := ⟨9, 8⟩) (meth := k9m8) (c := k9c8) (by decide +kernel) rfl rfl rfl (by decide +kernel)
set_option maxRecDepth 65536 in
theorem w_c17 : (Jvm.Cond.code ({ cls := "com/example/halysis/halysis/VerifyResult", name := "lastSeq", desc := "()J" } : Jvm.MethodName) prog_31_method_12_code (1 : Nat) (Option.some Jvm.ClassFile.FieldType.long)).before args0 about1 = true := code_word (m := ⟨9, 9⟩) (meth := k9m9) (c := k9c9) (by decide +kernel) rfl rfl rfl (by decide +kernel)
set_option maxRecDepth 65536 in
theorem w_c18 : (Jvm.Cond.code ({ cls := "com/example/halysis/halysis/VerifyResult", name := "head", desc := "()Ljava/lang/String;" } : Jvm.MethodName) prog_31_method_13_code (1 : Nat) (Option.some (Jvm.ClassFile.FieldType.object "java/lang/String"))).before args0 about1 = true := code_word (m := ⟨9, 10⟩) (meth := k9m10) (c := k9c10) (by decide +kernel) rfl rfl rfl (by decide +kernel)
set_option maxRecDepth 65536 in
theorem w_c19 : (Jvm.Cond.code ({ cls := "java/lang/String", name := "isEmpty", desc := "()Z" } : Jvm.MethodName) jdk_42_method_55_code (1 : Nat) (Option.some Jvm.ClassFile.FieldType.boolean)).before args0 about1 = true := code_word (m := ⟨7, 2⟩) (meth := k7m2) (c := k7c2) (by decide +kernel) rfl rfl rfl (by decide +kernel)
set_option maxRecDepth 65536 in
theorem w_c20 : (Jvm.Cond.code ({ cls := "java/lang/String", name := "valueOf", desc := "(C)Ljava/lang/String;" } : Jvm.MethodName) jdk_42_method_139_code (1 : Nat) (Option.some (Jvm.ClassFile.FieldType.object "java/lang/String"))).before args0 about1 = true := code_word (m := ⟨7, 4⟩) (meth := k7m4) (c := k7c4) (by decide +kernel) rfl rfl rfl (by decide +kernel)
set_option maxRecDepth 65536 in
theorem w_c21 : (Jvm.Cond.code ({ cls := "java/lang/StringLatin1", name := "canEncode", desc := "(C)Z" } : Jvm.MethodName) jdk_43_method_3_code (1 : Nat) (Option.some Jvm.ClassFile.FieldType.boolean)).before args0 about1 = true := code_word (m := ⟨12, 1⟩) (meth := k12m1) (c := k12c1) (by decide +kernel) rfl rfl rfl (by decide +kernel)
set_option maxRecDepth 65536 in
theorem w_c22 : (Jvm.Cond.code ({ cls := "java/lang/StringLatin1", name := "toBytes", desc := "(C)[B" } : Jvm.MethodName) jdk_43_method_46_code (1 : Nat) (Option.some (Jvm.ClassFile.FieldType.array Jvm.ClassFile.FieldType.byte))).before args0 about1 = true := code_word (m := ⟨12, 2⟩) (meth := k12m2) (c := k12c2) (by decide +kernel) rfl rfl rfl (by decide +kernel)
set_option maxRecDepth 65536 in
theorem w_c23 : (Jvm.Cond.code ({ cls := "java/lang/String", name := "<init>", desc := "([BB)V" } : Jvm.MethodName) jdk_42_method_151_code (3 : Nat) (Option.none : Option Jvm.ClassFile.FieldType)).before args0 about1 = true := code_word (m := ⟨7, 6⟩) (meth := k7m6) (c := k7c6) (by decide +kernel) rfl rfl rfl (by decide +kernel)
def codes1 : List Jvm.Cond := [Jvm.Cond.code x code maxLocals ret, Jvm.Cond.code ({ cls := "java/lang/String", name := "<init>", desc := "([C)V" } : Jvm.MethodName) jdk_42_method_3_code (2 : Nat) (Option.none : Option Jvm.ClassFile.FieldType), Jvm.Cond.code ({ cls := "java/lang/String", name := "<init>", desc := "([CIILjava/lang/Void;)V" } : Jvm.MethodName) jdk_42_method_149_code (6 : Nat) (Option.none : Option Jvm.ClassFile.FieldType), Jvm.Cond.code ({ cls := "java/lang/Object", name := "<init>", desc := "()V" } : Jvm.MethodName) object_method_1_code (1 : Nat) (Option.none : Option Jvm.ClassFile.FieldType), Jvm.Cond.code ({ cls := "java/lang/StringUTF16", name := "compress", desc := "([CII)[B" } : Jvm.MethodName) jdk_52_method_16_code (6 : Nat) (Option.some (Jvm.ClassFile.FieldType.array Jvm.ClassFile.FieldType.byte)), Jvm.Cond.code ({ cls := "java/lang/StringUTF16", name := "compress", desc := "([CI[BII)I" } : Jvm.MethodName) jdk_52_method_21_code (7 : Nat) (Option.some Jvm.ClassFile.FieldType.int), Jvm.Cond.code ({ cls := "java/lang/StringUTF16", name := "coderFromArrayLen", desc := "([BI)B" } : Jvm.MethodName) jdk_52_method_15_code (2 : Nat) (Option.some Jvm.ClassFile.FieldType.byte), Jvm.Cond.code ({ cls := "com/example/halysis/halysis/VerifyResult", name := "checkpointMissing", desc := "(JLjava/lang/String;)Lcom/example/halysis/halysis/VerifyResult;" } : Jvm.MethodName) prog_31_method_4_code (3 : Nat) (Option.some (Jvm.ClassFile.FieldType.object "com/example/halysis/halysis/VerifyResult")), Jvm.Cond.code ({ cls := "com/example/halysis/halysis/VerifyResult", name := "<init>", desc := "(Lcom/example/halysis/halysis/VerifyResult$Kind;Ljava/nio/file/Path;JLjava/lang/String;JJJLjava/lang/String;)V" } : Jvm.MethodName) prog_31_method_1_code (13 : Nat) (Option.none : Option Jvm.ClassFile.FieldType), Jvm.Cond.code ({ cls := "com/example/halysis/halysis/VerifyResult", name := "ok", desc := "()Z" } : Jvm.MethodName) prog_31_method_5_code (1 : Nat) (Option.some Jvm.ClassFile.FieldType.boolean), Jvm.Cond.code ({ cls := "com/example/halysis/halysis/VerifyResult", name := "kind", desc := "()Lcom/example/halysis/halysis/VerifyResult$Kind;" } : Jvm.MethodName) prog_31_method_6_code (1 : Nat) (Option.some (Jvm.ClassFile.FieldType.object "com/example/halysis/halysis/VerifyResult$Kind")), Jvm.Cond.code ({ cls := "com/example/halysis/halysis/VerifyResult", name := "file", desc := "()Ljava/nio/file/Path;" } : Jvm.MethodName) prog_31_method_7_code (1 : Nat) (Option.some (Jvm.ClassFile.FieldType.object "java/nio/file/Path")), Jvm.Cond.code ({ cls := "com/example/halysis/halysis/VerifyResult", name := "line", desc := "()J" } : Jvm.MethodName) prog_31_method_8_code (1 : Nat) (Option.some Jvm.ClassFile.FieldType.long), Jvm.Cond.code ({ cls := "com/example/halysis/halysis/VerifyResult", name := "detail", desc := "()Ljava/lang/String;" } : Jvm.MethodName) prog_31_method_9_code (1 : Nat) (Option.some (Jvm.ClassFile.FieldType.object "java/lang/String")), Jvm.Cond.code ({ cls := "java/lang/String", name := "equals", desc := "(Ljava/lang/Object;)Z" } : Jvm.MethodName) jdk_42_method_66_code (3 : Nat) (Option.some Jvm.ClassFile.FieldType.boolean), Jvm.Cond.code ({ cls := "com/example/halysis/halysis/VerifyResult", name := "records", desc := "()J" } : Jvm.MethodName) prog_31_method_10_code (1 : Nat) (Option.some Jvm.ClassFile.FieldType.long), Jvm.Cond.code ({ cls := "com/example/halysis/halysis/VerifyResult", name := "firstSeq", desc := "()J" } : Jvm.MethodName) prog_31_method_11_code (1 : Nat) (Option.some Jvm.ClassFile.FieldType.long), Jvm.Cond.code ({ cls := "com/example/halysis/halysis/VerifyResult", name := "lastSeq", desc := "()J" } : Jvm.MethodName) prog_31_method_12_code (1 : Nat) (Option.some Jvm.ClassFile.FieldType.long), Jvm.Cond.code ({ cls := "com/example/halysis/halysis/VerifyResult", name := "head", desc := "()Ljava/lang/String;" } : Jvm.MethodName) prog_31_method_13_code (1 : Nat) (Option.some (Jvm.ClassFile.FieldType.object "java/lang/String")), Jvm.Cond.code ({ cls := "java/lang/String", name := "isEmpty", desc := "()Z" } : Jvm.MethodName) jdk_42_method_55_code (1 : Nat) (Option.some Jvm.ClassFile.FieldType.boolean), Jvm.Cond.code ({ cls := "java/lang/String", name := "valueOf", desc := "(C)Ljava/lang/String;" } : Jvm.MethodName) jdk_42_method_139_code (1 : Nat) (Option.some (Jvm.ClassFile.FieldType.object "java/lang/String")), Jvm.Cond.code ({ cls := "java/lang/StringLatin1", name := "canEncode", desc := "(C)Z" } : Jvm.MethodName) jdk_43_method_3_code (1 : Nat) (Option.some Jvm.ClassFile.FieldType.boolean), Jvm.Cond.code ({ cls := "java/lang/StringLatin1", name := "toBytes", desc := "(C)[B" } : Jvm.MethodName) jdk_43_method_46_code (1 : Nat) (Option.some (Jvm.ClassFile.FieldType.array Jvm.ClassFile.FieldType.byte)), Jvm.Cond.code ({ cls := "java/lang/String", name := "<init>", desc := "([BB)V" } : Jvm.MethodName) jdk_42_method_151_code (3 : Nat) (Option.none : Option Jvm.ClassFile.FieldType)]
set_option maxRecDepth 65536 in
theorem codes_eq : words1.filter isCode = codes1 := rfl
theorem w_codes : ∀ c ∈ words1.filter isCode, c.before args0 about1 = true := by
  rw [codes_eq]
  intro c hc
  simp only [codes1, List.mem_cons, List.not_mem_nil, or_false] at hc
  rcases hc with rfl | rfl | rfl | rfl | rfl | rfl | rfl | rfl | rfl | rfl | rfl | rfl | rfl | rfl | rfl | rfl | rfl | rfl | rfl | rfl | rfl | rfl | rfl | rfl
  · exact w_c0
  · exact w_c1
  · exact w_c2
  · exact w_c3
  · exact w_c4
  · exact w_c5
  · exact w_c6
  · exact w_c7
  · exact w_c8
  · exact w_c9
  · exact w_c10
  · exact w_c11
  · exact w_c12
  · exact w_c13
  · exact w_c14
  · exact w_c15
  · exact w_c16
  · exact w_c17
  · exact w_c18
  · exact w_c19
  · exact w_c20
  · exact w_c21
  · exact w_c22
  · exact w_c23
set_option maxRecDepth 65536 in
theorem w_t1 : (words1.take 24).all (fun c => isCode c || c.before args0 about1) = true := by decide +kernel
set_option maxRecDepth 65536 in
theorem w_t2 : ((words1.drop 24).take 24).all (fun c => isCode c || c.before args0 about1) = true := by decide +kernel
set_option maxRecDepth 65536 in
theorem w_t3 : (((words1.drop 24).drop 24).take 24).all (fun c => isCode c || c.before args0 about1) = true := by decide +kernel
set_option maxRecDepth 65536 in
theorem w_t4 : ((((words1.drop 24).drop 24).drop 24).take 24).all (fun c => isCode c || c.before args0 about1) = true := by decide +kernel
set_option maxRecDepth 65536 in
theorem w_t5 : (((((words1.drop 24).drop 24).drop 24).drop 24).take 24).all (fun c => isCode c || c.before args0 about1) = true := by decide +kernel
set_option maxRecDepth 65536 in
theorem w_t6 : (((((words1.drop 24).drop 24).drop 24).drop 24).drop 24).all (fun c => isCode c || c.before args0 about1) = true := by decide +kernel
theorem w_tables : (allAtoms (Jvm.Cond.code x code maxLocals ret :: tables_1)).before args0 about1 = true := by
  rw [allAtoms_all]
  show words1.all (fun c => c.before args0 about1) = true
  refine all_split ?_ w_codes
  rw [← List.take_append_drop 24 words1, List.all_append, w_t1, ← List.take_append_drop 24 (words1.drop 24), List.all_append, w_t2, ← List.take_append_drop 24 ((words1.drop 24).drop 24), List.all_append, w_t3, ← List.take_append_drop 24 (((words1.drop 24).drop 24).drop 24), List.all_append, w_t4, ← List.take_append_drop 24 ((((words1.drop 24).drop 24).drop 24).drop 24), List.all_append, w_t5, w_t6]
  rfl
set_option maxRecDepth 65536 in
theorem w_rest : rest_1_c.before args0 about1 = true := by decide +kernel
set_option maxRecDepth 65536 in
theorem w_case : (Jvm.Cond.and given_1 narrow_1).before args0 about1 = true := by decide +kernel
set_option maxRecDepth 65536 in
theorem w_consts : constsHeld consts_1 about1 := Jvm.Lit.constsHeldB_iff.mp (by decide +kernel)
theorem w_applies : (headSpec (Jvm.Cond.code x code maxLocals ret :: tables_1) room_1).applies x e0.platform about1 = true :=
  (Spec.applies_iff w_frames).mpr ⟨w_running, w_runnable, w_alone, w_named, w_hears, w_ripe, w_room, w_tables⟩
theorem atStart : AtStart classFile x code maxLocals ret World_1 tables_1 room_1 Calls_1 rest_1 Pre_1 launch0 p0 e0 about1 theMethod args0 below0 :=
  ⟨lists_1, trivial, launch0.admits_env _ _ _, launch0.least_env, fairChoices_fair.cas, fairChoices_fair.clock, w_frames, w_args, w_heap, w_applies, ⟨w_consts, trivial⟩, w_rest, w_case⟩
end start1
theorem witness_1 : WitnessClaimed_1 := ⟨start1.p0, start1.e0, start1.about1, start1.theMethod, start1.args0, start1.below0, start1.atStart⟩
end Jvm.Pilot.@@N@@
