import JvmDerived
import JvmDerived.Pilot.@@N@@Statement
import JvmDerived.Pilot.@@N@@Code
set_option linter.unusedVariables false
set_option linter.unusedSimpArgs false
namespace Jvm.Own
open Jvm Jvm.ClassFile Sem Op Lib Jvm.Free Jvm.Stand Jvm.LawKit Jvm.RoadKit
section Core
variable {p : Program} {l : Launch} {e : Env} {R : Room} {s : State} {m : MethodId} {args : Array Value} {below : List Frame} {meth : Method} {c : Code} {Z : State} {own nm : String} {bytes : ByteArray} {maxL : Nat} {ret : Option FieldType} {n0 : Nat} {a0 : Array Value}
  {T T' : State} {h h' : Heap} {cells slots : Nat} {Q : Option Value → Heap → Prop} {Ls : Array Slot} {st : List Value} {pc n : Nat}
/-- where a walk stands: the state T, its heap h, the cells and slots made so far; nothing below n0 written -/
def Pos (p : Program) (l : Launch) (e : Env) (R : Room) (s : State) (m : MethodId) (args : Array Value) (below : List Frame) (meth : Method) (c : Code) (Z : State) (own nm : String) (bytes : ByteArray) (maxL : Nat) (ret : Option FieldType) (n0 : Nat) (T : State) (h : Heap) (cells slots : Nat) : Prop :=
  (∃ locs, Stand p l e R s m args below meth c T locs cells slots ∧ Fr n0 locs) ∧ T.heap = h ∧ p.tables.exec = Jvm.exec ∧ c.code = bytes ∧ c.maxLocals = maxL ∧ s.vm.findClass own = some m.cls ∧ Z.Warmed39 s.vm ∧ meth.sig.returnType = ret ∧ meth.name = nm ∧ meth.locks = false ∧ n0 ≤ s.heap.size
/-- from the frame g the method comes to its end as Q says -/
def Ends (p : Program) (e : Env) (below : List Frame) (s : State) (R : Room) (n0 : Nat) (Q : Option Value → Heap → Prop) (T : State) (g : JFrame) : Prop :=
  ∃ s₂ o, Steps p.tables e below (T.setTop g) s₂ ∧ s₂.status = .running ∧ Ended s₂ below o ∧ ∃ v L, o = .returned v ∧ (Q v s₂.heap ∧ Fr n0 L) ∧ FrameEnd s o s₂ L R.cells R.slots
/-- a method's contract at given arguments and a given heap -/
def Meth (l : Launch) (Z : State) (y : MethodName) (bytes : ByteArray) (maxL : Nat) (ret : Option FieldType) (rm : Room) (as : Array Value) (h : Heap) (n0 : Nat) (Q : Option Value → Heap → Prop) : Prop :=
  ∀ ws : List Cond, MetFree l y (head1 (Cond.code y bytes maxL ret :: ws) rm) (fun a U => a = as ∧ Z.Warmed39 U.vm ∧ U.heap = h) (fun _ _ _ _ _ => True) (fun _ U o U' => ∃ v L, o = .returned v ∧ (Q v U'.heap ∧ Fr n0 L) ∧ FrameEnd U o U' L rm.cells rm.slots)
theorem Pos.stand (P : Pos p l e R s m args below meth c Z own nm bytes maxL ret n0 T h cells slots) : ∃ locs, Stand p l e R s m args below meth c T locs cells slots ∧ Fr n0 locs := P.1
theorem Pos.heap (P : Pos p l e R s m args below meth c Z own nm bytes maxL ret n0 T h cells slots) : T.heap = h := P.2.1
theorem Pos.hx (P : Pos p l e R s m args below meth c Z own nm bytes maxL ret n0 T h cells slots) : p.tables.exec = Jvm.exec := P.2.2.1
theorem Pos.code (P : Pos p l e R s m args below meth c Z own nm bytes maxL ret n0 T h cells slots) : c.code = bytes := P.2.2.2.1
theorem Pos.maxl (P : Pos p l e R s m args below meth c Z own nm bytes maxL ret n0 T h cells slots) : c.maxLocals = maxL := P.2.2.2.2.1
theorem Pos.own' (P : Pos p l e R s m args below meth c Z own nm bytes maxL ret n0 T h cells slots) : s.vm.findClass own = some m.cls := P.2.2.2.2.2.1
theorem Pos.hZ (P : Pos p l e R s m args below meth c Z own nm bytes maxL ret n0 T h cells slots) : Z.Warmed39 s.vm := P.2.2.2.2.2.2.1
theorem Pos.rets (P : Pos p l e R s m args below meth c Z own nm bytes maxL ret n0 T h cells slots) : meth.sig.returnType = ret := P.2.2.2.2.2.2.2.1
theorem Pos.name (P : Pos p l e R s m args below meth c Z own nm bytes maxL ret n0 T h cells slots) : meth.name = nm := P.2.2.2.2.2.2.2.2.1
theorem Pos.locks (P : Pos p l e R s m args below meth c Z own nm bytes maxL ret n0 T h cells slots) : meth.locks = false := P.2.2.2.2.2.2.2.2.2.1
theorem Pos.low0 (P : Pos p l e R s m args below meth c Z own nm bytes maxL ret n0 T h cells slots) : n0 ≤ s.heap.size := P.2.2.2.2.2.2.2.2.2.2
theorem Pos.low (P : Pos p l e R s m args below meth c Z own nm bytes maxL ret n0 T h cells slots) : n0 ≤ h.size := by
  obtain ⟨_, X, -⟩ := P.stand; rw [← P.heap]; exact Nat.le_trans P.low0 X.same.2.1
theorem Pos.here (P : Pos p l e R s m args below meth c Z own nm bytes maxL ret n0 T h cells slots) : At T m c below := by obtain ⟨_, X, -⟩ := P.stand; exact X.here
/-- on to another state of the same walk -/
theorem Pos.to (P : Pos p l e R s m args below meth c Z own nm bytes maxL ret n0 T h cells slots) {cells' slots' : Nat} {locs : List Loc} (X : Stand p l e R s m args below meth c T' locs cells' slots') (N : Fr n0 locs) (e' : T'.heap = h') : Pos p l e R s m args below meth c Z own nm bytes maxL ret n0 T' h' cells' slots' :=
  ⟨⟨_, X, N⟩, e', P.2.2.1, P.2.2.2.1, P.2.2.2.2.1, P.2.2.2.2.2.1, P.2.2.2.2.2.2.1, P.2.2.2.2.2.2.2.1, P.2.2.2.2.2.2.2.2.1, P.2.2.2.2.2.2.2.2.2.1, P.low0⟩
theorem Ends.via {g g' : JFrame} (E : Ends p e below s R n0 Q T' g') (k : ∀ t, Steps p.tables e below (T'.setTop g') t → Steps p.tables e below (T.setTop g) t) : Ends p e below s R n0 Q T g := by
  obtain ⟨s₂, o, h1, h2⟩ := E; exact ⟨s₂, o, k _ h1, h2⟩
theorem Ends.cast {g g' : JFrame} (q : g = g') (E : Ends p e below s R n0 Q T g') : Ends p e below s R n0 Q T g := q ▸ E
/-- a value by a name -/
theorem nameI {α : Type} {x : α} {F : α → Prop} (k : ∀ z, z = x → F z) : F x := k x rfl
theorem Meth.of {y : MethodName} {rm : Room} {as : Array Value} (hcls : plainFor y = true) (hlow : n0 ≤ h.size)
    (body : ∀ p e s m args below meth c T, Pos p l e rm s m args below meth c Z y.cls y.name bytes maxL ret n0 T h 0 0 → Ends p e below s rm n0 Q T (entryFrame m as maxL)) : Meth l Z y bytes maxL ret rm as h n0 Q := by
  intro ws
  refine MetFree.of_bodySF hcls hisR ?_
  intro p e s m args below meth c s₁ Bd hml0 hP hK
  obtain ⟨rfl, hZ, hh⟩ := hP
  have hown : s.vm.findClass y.cls = some m.cls := findClass_of_methodNamed Bd.named
  have hnm := (name_of_methodNamed Bd.named Bd.method).1
  have X0 : Stand p l e rm s m args below meth c s₁ [] 0 0 := Stand.of_body Bd
  have e0 : s₁.heap = h := by rw [← hh, Bd.state]; rfl
  exact body p e s m args below meth c s₁ ⟨⟨[], X0, Fr.nil n0⟩, e0, Bd.exec, Bd.bytes, hml0, hown, hZ, Bd.returns, hnm, Bd.notSynchronized, hh ▸ hlow⟩
/-! returns -/
theorem retV (P : Pos p l e R s m args below meth c Z own nm bytes maxL none n0 T h cells slots) (hd : decode bytes pc = .ok (.return_, 1)) (hc : cells ≤ R.cells) (hs : slots ≤ R.slots) (q : Q none h) : Ends p e below s R n0 Q T (mkF m pc Ls []) := by
  obtain ⟨locs, X, N⟩ := P.stand
  obtain ⟨fs, hr, hrun, hended, hW, hsame⟩ := X.leave (v := none) (fun _ => rfl) P.locks
  refine ⟨_, _, X.returnOut P.hx P.rets (hb P.code hd) hr, hrun, hended, _, _, rfl, ⟨?_, N⟩, ⟨_, rfl⟩, hW, hsame.mono hc hs⟩
  show Q none T.heap
  rw [P.heap]; exact q
theorem retA {w : Value} {t : FieldType} {i : Instr} (P : Pos p l e R s m args below meth c Z own nm bytes maxL (some t) n0 T h cells slots) (hd : decode bytes pc = .ok (i, 1)) (hn : narrow t w = w)
    (hi : (i = .ireturn ∧ (t = .int ∨ t = .boolean ∨ t = .byte ∨ t = .char ∨ t = .short) ∧ ∃ z, w = .int z) ∨ (i = .lreturn ∧ t = .long ∧ ∃ z, w = .long z) ∨ (i = .dreturn ∧ t = .double ∧ ∃ z, w = .double z) ∨ (i = .freturn ∧ t = .float ∧ ∃ z, w = .float z) ∨ (i = .areturn ∧ t.isReference = true ∧ w.isRef = true))
    (hc : cells ≤ R.cells) (hs : slots ≤ R.slots) (q : Q (some w) h) : Ends p e below s R n0 Q T (mkF m pc Ls (w :: st)) := by
  obtain ⟨locs, X, N⟩ := P.stand
  obtain ⟨fs, hr, hrun, hended, hW, hsame⟩ := X.leave (v := some w) (fun h => by rw [P.rets] at h; cases h) P.locks
  refine ⟨_, _, retOut X P.hx P.rets hn hi (hb P.code hd) hr, hrun, hended, _, _, rfl, ⟨?_, N⟩, ⟨_, rfl⟩, hW, hsame.mono hc hs⟩
  show Q (some w) T.heap
  rw [P.heap]; exact q
theorem retI {x : Int32} (P : Pos p l e R s m args below meth c Z own nm bytes maxL (some .int) n0 T h cells slots) (hd : decode bytes pc = .ok (.ireturn, 1)) (hc : cells ≤ R.cells) (hs : slots ≤ R.slots) (q : Q (some (.int x)) h) : Ends p e below s R n0 Q T (mkF m pc Ls (.int x :: st)) :=
  retA P hd rfl (Or.inl ⟨rfl, Or.inl rfl, _, rfl⟩) hc hs q
theorem retL {x : Int64} (P : Pos p l e R s m args below meth c Z own nm bytes maxL (some .long) n0 T h cells slots) (hd : decode bytes pc = .ok (.lreturn, 1)) (hc : cells ≤ R.cells) (hs : slots ≤ R.slots) (q : Q (some (.long x)) h) : Ends p e below s R n0 Q T (mkF m pc Ls (.long x :: st)) :=
  retA P hd rfl (Or.inr (Or.inl ⟨rfl, rfl, _, rfl⟩)) hc hs q
theorem retR {w : Value} {C : String} (P : Pos p l e R s m args below meth c Z own nm bytes maxL (some (.object C)) n0 T h cells slots) (hd : decode bytes pc = .ok (.areturn, 1)) (hw : w.isRef = true) (hc : cells ≤ R.cells) (hs : slots ≤ R.slots) (q : Q (some w) h) : Ends p e below s R n0 Q T (mkF m pc Ls (w :: st)) := by
  refine retA P hd ?_ (Or.inr (Or.inr (Or.inr (Or.inr ⟨rfl, rfl, hw⟩)))) hc hs q
  rcases ref_cases hw with rfl | ⟨z, rfl⟩ <;> rfl
/-- a boolean's return narrows to the last bit -/
theorem retZ {x : Int32} (P : Pos p l e R s m args below meth c Z own nm bytes maxL (some .boolean) n0 T h cells slots) (hd : decode bytes pc = .ok (.ireturn, 1)) (hx : x = 0 ∨ x = 1) (hc : cells ≤ R.cells) (hs : slots ≤ R.slots) (q : Q (some (.int x)) h) : Ends p e below s R n0 Q T (mkF m pc Ls (.int x :: st)) := by
  refine retA P hd ?_ (Or.inl ⟨rfl, Or.inr (Or.inl rfl), _, rfl⟩) hc hs q
  rcases hx with rfl | rfl <;> rfl
theorem retB {x : Int32} (P : Pos p l e R s m args below meth c Z own nm bytes maxL (some .byte) n0 T h cells slots) (hd : decode bytes pc = .ok (.ireturn, 1)) (hx : x.toInt8.toInt32 = x) (hc : cells ≤ R.cells) (hs : slots ≤ R.slots) (q : Q (some (.int x)) h) : Ends p e below s R n0 Q T (mkF m pc Ls (.int x :: st)) :=
  retA P hd (by show Value.int x.toInt8.toInt32 = Value.int x; rw [hx]) (Or.inl ⟨rfl, Or.inr (Or.inr (Or.inl rfl)), _, rfl⟩) hc hs q
theorem iloadN (P : Pos p l e R s m args below meth c Z own nm bytes maxL ret n0 T h cells slots) {j : Fin 4} {v : Int32} (hd : decode bytes pc = .ok (.iload_n j, 1)) (hl : Ls[j.val]? = some (.val (.int v))) (hn : n = pc + 1)
    (E : Ends p e below s R n0 Q T (mkF m n Ls (.int v :: st))) : Ends p e below s R n0 Q T (mkF m pc Ls st) := by
  subst hn; exact E.via fun t k => XS.iloadN P.here P.hx rfl (hb P.code hd) hl k
theorem iload (P : Pos p l e R s m args below meth c Z own nm bytes maxL ret n0 T h cells slots) {j : Nat} {v : Int32} (hd : decode bytes pc = .ok (.iload j, 2)) (hl : Ls[j]? = some (.val (.int v))) (hn : n = pc + 2)
    (E : Ends p e below s R n0 Q T (mkF m n Ls (.int v :: st))) : Ends p e below s R n0 Q T (mkF m pc Ls st) := by
  subst hn; exact E.via fun t k => XS.iload P.here P.hx rfl (hb P.code hd) hl k
theorem istoreN (P : Pos p l e R s m args below meth c Z own nm bytes maxL ret n0 T h cells slots) {j : Fin 4} {v : Int32} {l' : Array Slot} (hd : decode bytes pc = .ok (.istore_n j, 1)) (hl : storeLocals Ls j.val (.int v) = some l') (hn : n = pc + 1)
    (E : Ends p e below s R n0 Q T (mkF m n l' st)) : Ends p e below s R n0 Q T (mkF m pc Ls (.int v :: st)) := by
  subst hn; exact E.via fun t k => XS.istoreN P.here P.hx rfl (hb P.code hd) rfl hl k
theorem istore (P : Pos p l e R s m args below meth c Z own nm bytes maxL ret n0 T h cells slots) {j : Nat} {v : Int32} {l' : Array Slot} (hd : decode bytes pc = .ok (.istore j, 2)) (hl : storeLocals Ls j (.int v) = some l') (hn : n = pc + 2)
    (E : Ends p e below s R n0 Q T (mkF m n l' st)) : Ends p e below s R n0 Q T (mkF m pc Ls (.int v :: st)) := by
  subst hn; exact E.via fun t k => XS.istore P.here P.hx rfl (hb P.code hd) rfl hl k
theorem lloadN (P : Pos p l e R s m args below meth c Z own nm bytes maxL ret n0 T h cells slots) {j : Fin 4} {v : Int64} (hd : decode bytes pc = .ok (.lload_n j, 1)) (hl : Ls[j.val]? = some (.val (.long v))) (hn : n = pc + 1)
    (E : Ends p e below s R n0 Q T (mkF m n Ls (.long v :: st))) : Ends p e below s R n0 Q T (mkF m pc Ls st) := by
  subst hn; exact E.via fun t k => XS.lloadN P.here P.hx rfl (hb P.code hd) hl k
theorem lload (P : Pos p l e R s m args below meth c Z own nm bytes maxL ret n0 T h cells slots) {j : Nat} {v : Int64} (hd : decode bytes pc = .ok (.lload j, 2)) (hl : Ls[j]? = some (.val (.long v))) (hn : n = pc + 2)
    (E : Ends p e below s R n0 Q T (mkF m n Ls (.long v :: st))) : Ends p e below s R n0 Q T (mkF m pc Ls st) := by
  subst hn; exact E.via fun t k => XS.lload P.here P.hx rfl (hb P.code hd) hl k
theorem lstoreN (P : Pos p l e R s m args below meth c Z own nm bytes maxL ret n0 T h cells slots) {j : Fin 4} {v : Int64} {l' : Array Slot} (hd : decode bytes pc = .ok (.lstore_n j, 1)) (hl : storeLocals Ls j.val (.long v) = some l') (hn : n = pc + 1)
    (E : Ends p e below s R n0 Q T (mkF m n l' st)) : Ends p e below s R n0 Q T (mkF m pc Ls (.long v :: st)) := by
  subst hn; exact E.via fun t k => XS.lstoreN P.here P.hx rfl (hb P.code hd) rfl hl k
theorem lstore (P : Pos p l e R s m args below meth c Z own nm bytes maxL ret n0 T h cells slots) {j : Nat} {v : Int64} {l' : Array Slot} (hd : decode bytes pc = .ok (.lstore j, 2)) (hl : storeLocals Ls j (.long v) = some l') (hn : n = pc + 2)
    (E : Ends p e below s R n0 Q T (mkF m n l' st)) : Ends p e below s R n0 Q T (mkF m pc Ls (.long v :: st)) := by
  subst hn; exact E.via fun t k => XS.lstore P.here P.hx rfl (hb P.code hd) rfl hl k
theorem aloadN (P : Pos p l e R s m args below meth c Z own nm bytes maxL ret n0 T h cells slots) {j : Fin 4} {v : Value} (hd : decode bytes pc = .ok (.aload_n j, 1)) (hl : Ls[j.val]? = some (.val v)) (hv : v.isRef = true) (hn : n = pc + 1)
    (E : Ends p e below s R n0 Q T (mkF m n Ls (v :: st))) : Ends p e below s R n0 Q T (mkF m pc Ls st) := by
  subst hn; exact E.via fun t k => XS.aloadN P.here P.hx rfl (hb P.code hd) hl hv k
theorem aload (P : Pos p l e R s m args below meth c Z own nm bytes maxL ret n0 T h cells slots) {j : Nat} {v : Value} (hd : decode bytes pc = .ok (.aload j, 2)) (hl : Ls[j]? = some (.val v)) (hv : v.isRef = true) (hn : n = pc + 2)
    (E : Ends p e below s R n0 Q T (mkF m n Ls (v :: st))) : Ends p e below s R n0 Q T (mkF m pc Ls st) := by
  subst hn; exact E.via fun t k => XS.aload P.here P.hx rfl (hb P.code hd) hl hv k
theorem astoreN (P : Pos p l e R s m args below meth c Z own nm bytes maxL ret n0 T h cells slots) {j : Fin 4} {v : Value} {l' : Array Slot} (hd : decode bytes pc = .ok (.astore_n j, 1)) (hv : v.isRef = true) (hl : storeLocals Ls j.val v = some l') (hn : n = pc + 1)
    (E : Ends p e below s R n0 Q T (mkF m n l' st)) : Ends p e below s R n0 Q T (mkF m pc Ls (v :: st)) := by
  subst hn; exact E.via fun t k => XS.astoreN P.here P.hx rfl (hb P.code hd) rfl hv hl k
theorem astore (P : Pos p l e R s m args below meth c Z own nm bytes maxL ret n0 T h cells slots) {j : Nat} {v : Value} {l' : Array Slot} (hd : decode bytes pc = .ok (.astore j, 2)) (hv : v.isRef = true) (hl : storeLocals Ls j v = some l') (hn : n = pc + 2)
    (E : Ends p e below s R n0 Q T (mkF m n l' st)) : Ends p e below s R n0 Q T (mkF m pc Ls (v :: st)) := by
  subst hn; exact E.via fun t k => XS.astore P.here P.hx rfl (hb P.code hd) rfl hv hl k
theorem iconst (P : Pos p l e R s m args below meth c Z own nm bytes maxL ret n0 T h cells slots) {i : Int} (hd : decode bytes pc = .ok (.iconst i, 1)) {x : Int32} (hx : x = Int32.ofInt i) (hn : n = pc + 1)
    (E : Ends p e below s R n0 Q T (mkF m n Ls (.int x :: st))) : Ends p e below s R n0 Q T (mkF m pc Ls st) := by
  subst hn; exact E.via fun t k => XS.iconst P.here P.hx rfl (hb P.code hd) (by subst hx; exact k)
theorem bipush (P : Pos p l e R s m args below meth c Z own nm bytes maxL ret n0 T h cells slots) {i : Int} (hd : decode bytes pc = .ok (.bipush i, 2)) {x : Int32} (hx : x = (Int8.ofInt i).toInt32) (hn : n = pc + 2)
    (E : Ends p e below s R n0 Q T (mkF m n Ls (.int x :: st))) : Ends p e below s R n0 Q T (mkF m pc Ls st) := by
  subst hn; exact E.via fun t k => XS.bipush P.here P.hx rfl (hb P.code hd) (by subst hx; exact k)
theorem sipush (P : Pos p l e R s m args below meth c Z own nm bytes maxL ret n0 T h cells slots) {i : Int} (hd : decode bytes pc = .ok (.sipush i, 3)) {x : Int32} (hx : x = (Int16.ofInt i).toInt32) (hn : n = pc + 3)
    (E : Ends p e below s R n0 Q T (mkF m n Ls (.int x :: st))) : Ends p e below s R n0 Q T (mkF m pc Ls st) := by
  subst hn; exact E.via fun t k => XS.sipush P.here P.hx rfl (hb P.code hd) (by subst hx; exact k)
theorem lconst (P : Pos p l e R s m args below meth c Z own nm bytes maxL ret n0 T h cells slots) {i : Fin 2} (hd : decode bytes pc = .ok (.lconst i, 1)) {x : Int64} (hx : x = Int64.ofNat i) (hn : n = pc + 1)
    (E : Ends p e below s R n0 Q T (mkF m n Ls (.long x :: st))) : Ends p e below s R n0 Q T (mkF m pc Ls st) := by
  subst hn; exact E.via fun t k => XS.lconst P.here P.hx rfl (hb P.code hd) (by subst hx; exact k)
theorem aconstNull (P : Pos p l e R s m args below meth c Z own nm bytes maxL ret n0 T h cells slots) (hd : decode bytes pc = .ok (.aconst_null, 1)) (hn : n = pc + 1)
    (E : Ends p e below s R n0 Q T (mkF m n Ls (.null :: st))) : Ends p e below s R n0 Q T (mkF m pc Ls st) := by
  subst hn; exact E.via fun t k => XS.aconstNull P.here P.hx rfl (hb P.code hd) k
theorem iadd (P : Pos p l e R s m args below meth c Z own nm bytes maxL ret n0 T h cells slots) {x y : Int32} (hd : decode bytes pc = .ok (.iadd, 1)) (hn : n = pc + 1)
    (E : Ends p e below s R n0 Q T (mkF m n Ls (.int (x + y) :: st))) : Ends p e below s R n0 Q T (mkF m pc Ls (.int y :: .int x :: st)) := by
  subst hn; exact E.via fun t k => XS.iadd P.here P.hx rfl (hb P.code hd) rfl k
theorem isub (P : Pos p l e R s m args below meth c Z own nm bytes maxL ret n0 T h cells slots) {x y : Int32} (hd : decode bytes pc = .ok (.isub, 1)) (hn : n = pc + 1)
    (E : Ends p e below s R n0 Q T (mkF m n Ls (.int (x - y) :: st))) : Ends p e below s R n0 Q T (mkF m pc Ls (.int y :: .int x :: st)) := by
  subst hn; exact E.via fun t k => XS.isub P.here P.hx rfl (hb P.code hd) rfl k
theorem imul (P : Pos p l e R s m args below meth c Z own nm bytes maxL ret n0 T h cells slots) {x y : Int32} (hd : decode bytes pc = .ok (.imul, 1)) (hn : n = pc + 1)
    (E : Ends p e below s R n0 Q T (mkF m n Ls (.int (x * y) :: st))) : Ends p e below s R n0 Q T (mkF m pc Ls (.int y :: .int x :: st)) := by
  subst hn; exact E.via fun t k => XS.imul P.here P.hx rfl (hb P.code hd) rfl k
theorem iand (P : Pos p l e R s m args below meth c Z own nm bytes maxL ret n0 T h cells slots) {x y : Int32} (hd : decode bytes pc = .ok (.iand, 1)) (hn : n = pc + 1)
    (E : Ends p e below s R n0 Q T (mkF m n Ls (.int (x &&& y) :: st))) : Ends p e below s R n0 Q T (mkF m pc Ls (.int y :: .int x :: st)) := by
  subst hn; exact E.via fun t k => XS.iand P.here P.hx rfl (hb P.code hd) rfl k
theorem ior (P : Pos p l e R s m args below meth c Z own nm bytes maxL ret n0 T h cells slots) {x y : Int32} (hd : decode bytes pc = .ok (.ior, 1)) (hn : n = pc + 1)
    (E : Ends p e below s R n0 Q T (mkF m n Ls (.int (x ||| y) :: st))) : Ends p e below s R n0 Q T (mkF m pc Ls (.int y :: .int x :: st)) := by
  subst hn; exact E.via fun t k => XS.ior P.here P.hx rfl (hb P.code hd) rfl k
theorem ixor (P : Pos p l e R s m args below meth c Z own nm bytes maxL ret n0 T h cells slots) {x y : Int32} (hd : decode bytes pc = .ok (.ixor, 1)) (hn : n = pc + 1)
    (E : Ends p e below s R n0 Q T (mkF m n Ls (.int (x ^^^ y) :: st))) : Ends p e below s R n0 Q T (mkF m pc Ls (.int y :: .int x :: st)) := by
  subst hn; exact E.via fun t k => XS.ixor P.here P.hx rfl (hb P.code hd) rfl k
theorem ladd (P : Pos p l e R s m args below meth c Z own nm bytes maxL ret n0 T h cells slots) {x y : Int64} (hd : decode bytes pc = .ok (.ladd, 1)) (hn : n = pc + 1)
    (E : Ends p e below s R n0 Q T (mkF m n Ls (.long (x + y) :: st))) : Ends p e below s R n0 Q T (mkF m pc Ls (.long y :: .long x :: st)) := by
  subst hn; exact E.via fun t k => XS.ladd P.here P.hx rfl (hb P.code hd) rfl k
theorem lsub (P : Pos p l e R s m args below meth c Z own nm bytes maxL ret n0 T h cells slots) {x y : Int64} (hd : decode bytes pc = .ok (.lsub, 1)) (hn : n = pc + 1)
    (E : Ends p e below s R n0 Q T (mkF m n Ls (.long (x - y) :: st))) : Ends p e below s R n0 Q T (mkF m pc Ls (.long y :: .long x :: st)) := by
  subst hn; exact E.via fun t k => XS.lsub P.here P.hx rfl (hb P.code hd) rfl k
theorem lmul (P : Pos p l e R s m args below meth c Z own nm bytes maxL ret n0 T h cells slots) {x y : Int64} (hd : decode bytes pc = .ok (.lmul, 1)) (hn : n = pc + 1)
    (E : Ends p e below s R n0 Q T (mkF m n Ls (.long (x * y) :: st))) : Ends p e below s R n0 Q T (mkF m pc Ls (.long y :: .long x :: st)) := by
  subst hn; exact E.via fun t k => XS.lmul P.here P.hx rfl (hb P.code hd) rfl k
theorem land (P : Pos p l e R s m args below meth c Z own nm bytes maxL ret n0 T h cells slots) {x y : Int64} (hd : decode bytes pc = .ok (.land, 1)) (hn : n = pc + 1)
    (E : Ends p e below s R n0 Q T (mkF m n Ls (.long (x &&& y) :: st))) : Ends p e below s R n0 Q T (mkF m pc Ls (.long y :: .long x :: st)) := by
  subst hn; exact E.via fun t k => XS.land P.here P.hx rfl (hb P.code hd) rfl k
theorem lor (P : Pos p l e R s m args below meth c Z own nm bytes maxL ret n0 T h cells slots) {x y : Int64} (hd : decode bytes pc = .ok (.lor, 1)) (hn : n = pc + 1)
    (E : Ends p e below s R n0 Q T (mkF m n Ls (.long (x ||| y) :: st))) : Ends p e below s R n0 Q T (mkF m pc Ls (.long y :: .long x :: st)) := by
  subst hn; exact E.via fun t k => XS.lor P.here P.hx rfl (hb P.code hd) rfl k
theorem lxor (P : Pos p l e R s m args below meth c Z own nm bytes maxL ret n0 T h cells slots) {x y : Int64} (hd : decode bytes pc = .ok (.lxor, 1)) (hn : n = pc + 1)
    (E : Ends p e below s R n0 Q T (mkF m n Ls (.long (x ^^^ y) :: st))) : Ends p e below s R n0 Q T (mkF m pc Ls (.long y :: .long x :: st)) := by
  subst hn; exact E.via fun t k => XS.lxor P.here P.hx rfl (hb P.code hd) rfl k
theorem ishl (P : Pos p l e R s m args below meth c Z own nm bytes maxL ret n0 T h cells slots) {x y : Int32} (hd : decode bytes pc = .ok (.ishl, 1)) (hn : n = pc + 1)
    (E : Ends p e below s R n0 Q T (mkF m n Ls (.int (x <<< (y &&& 31)) :: st))) : Ends p e below s R n0 Q T (mkF m pc Ls (.int y :: .int x :: st)) := by
  subst hn; exact E.via fun t k => XS.ishl P.here P.hx rfl (hb P.code hd) rfl k
theorem ishr (P : Pos p l e R s m args below meth c Z own nm bytes maxL ret n0 T h cells slots) {x y : Int32} (hd : decode bytes pc = .ok (.ishr, 1)) (hn : n = pc + 1)
    (E : Ends p e below s R n0 Q T (mkF m n Ls (.int (x >>> (y &&& 31)) :: st))) : Ends p e below s R n0 Q T (mkF m pc Ls (.int y :: .int x :: st)) := by
  subst hn; exact E.via fun t k => XS.ishr P.here P.hx rfl (hb P.code hd) rfl k
theorem iushr (P : Pos p l e R s m args below meth c Z own nm bytes maxL ret n0 T h cells slots) {x y : Int32} (hd : decode bytes pc = .ok (.iushr, 1)) (hn : n = pc + 1)
    (E : Ends p e below s R n0 Q T (mkF m n Ls (.int ((x.toUInt32 >>> (y &&& 31).toUInt32).toInt32) :: st))) : Ends p e below s R n0 Q T (mkF m pc Ls (.int y :: .int x :: st)) := by
  subst hn; exact E.via fun t k => XS.iushr P.here P.hx rfl (hb P.code hd) rfl k
theorem lshl (P : Pos p l e R s m args below meth c Z own nm bytes maxL ret n0 T h cells slots) {x : Int64} {y : Int32} (hd : decode bytes pc = .ok (.lshl, 1)) (hn : n = pc + 1)
    (E : Ends p e below s R n0 Q T (mkF m n Ls (.long (x <<< (y &&& 0x3f).toInt64) :: st))) : Ends p e below s R n0 Q T (mkF m pc Ls (.int y :: .long x :: st)) := by
  subst hn; exact E.via fun t k => XS.lshl P.here P.hx rfl (hb P.code hd) rfl k
theorem lshr (P : Pos p l e R s m args below meth c Z own nm bytes maxL ret n0 T h cells slots) {x : Int64} {y : Int32} (hd : decode bytes pc = .ok (.lshr, 1)) (hn : n = pc + 1)
    (E : Ends p e below s R n0 Q T (mkF m n Ls (.long (x >>> (y &&& 0x3f).toInt64) :: st))) : Ends p e below s R n0 Q T (mkF m pc Ls (.int y :: .long x :: st)) := by
  subst hn; exact E.via fun t k => XS.lshr P.here P.hx rfl (hb P.code hd) rfl k
theorem lushr (P : Pos p l e R s m args below meth c Z own nm bytes maxL ret n0 T h cells slots) {x : Int64} {y : Int32} (hd : decode bytes pc = .ok (.lushr, 1)) (hn : n = pc + 1)
    (E : Ends p e below s R n0 Q T (mkF m n Ls (.long ((x.toUInt64 >>> (y &&& 0x3f).toInt64.toUInt64).toInt64) :: st))) : Ends p e below s R n0 Q T (mkF m pc Ls (.int y :: .long x :: st)) := by
  subst hn; exact E.via fun t k => XS.lushr P.here P.hx rfl (hb P.code hd) rfl k
theorem idiv (P : Pos p l e R s m args below meth c Z own nm bytes maxL ret n0 T h cells slots) {x y : Int32} (hd : decode bytes pc = .ok (.idiv, 1)) (hy : y ≠ 0) (hn : n = pc + 1)
    (E : Ends p e below s R n0 Q T (mkF m n Ls (.int (x / y) :: st))) : Ends p e below s R n0 Q T (mkF m pc Ls (.int y :: .int x :: st)) := by
  subst hn; exact E.via fun t k => XS.idiv P.here P.hx rfl (hb P.code hd) rfl hy k
theorem irem (P : Pos p l e R s m args below meth c Z own nm bytes maxL ret n0 T h cells slots) {x y : Int32} (hd : decode bytes pc = .ok (.irem, 1)) (hy : y ≠ 0) (hn : n = pc + 1)
    (E : Ends p e below s R n0 Q T (mkF m n Ls (.int (x % y) :: st))) : Ends p e below s R n0 Q T (mkF m pc Ls (.int y :: .int x :: st)) := by
  subst hn; obtain ⟨_, X, -⟩ := P.stand; exact E.via fun t k => Jvm.RoadKit.iremM X P.hx rfl (hb P.code hd) rfl hy k
theorem ldiv (P : Pos p l e R s m args below meth c Z own nm bytes maxL ret n0 T h cells slots) {x y : Int64} (hd : decode bytes pc = .ok (.ldiv, 1)) (hy : y ≠ 0) (hn : n = pc + 1)
    (E : Ends p e below s R n0 Q T (mkF m n Ls (.long (x / y) :: st))) : Ends p e below s R n0 Q T (mkF m pc Ls (.long y :: .long x :: st)) := by
  subst hn; exact E.via fun t k => XS.ldiv P.here P.hx rfl (hb P.code hd) rfl hy k
theorem lrem (P : Pos p l e R s m args below meth c Z own nm bytes maxL ret n0 T h cells slots) {x y : Int64} (hd : decode bytes pc = .ok (.lrem, 1)) (hy : y ≠ 0) (hn : n = pc + 1)
    (E : Ends p e below s R n0 Q T (mkF m n Ls (.long (x - (x / y) * y) :: st))) : Ends p e below s R n0 Q T (mkF m pc Ls (.long y :: .long x :: st)) := by
  subst hn; exact E.via fun t k => XS.lrem P.here P.hx rfl (hb P.code hd) rfl hy k
theorem ineg (P : Pos p l e R s m args below meth c Z own nm bytes maxL ret n0 T h cells slots) {x : Int32} (hd : decode bytes pc = .ok (.ineg, 1)) (hn : n = pc + 1)
    (E : Ends p e below s R n0 Q T (mkF m n Ls (.int (-x) :: st))) : Ends p e below s R n0 Q T (mkF m pc Ls (.int x :: st)) := by
  subst hn; exact E.via fun t k => XS.ineg P.here P.hx rfl (hb P.code hd) rfl k
theorem lneg (P : Pos p l e R s m args below meth c Z own nm bytes maxL ret n0 T h cells slots) {x : Int64} (hd : decode bytes pc = .ok (.lneg, 1)) (hn : n = pc + 1)
    (E : Ends p e below s R n0 Q T (mkF m n Ls (.long (-x) :: st))) : Ends p e below s R n0 Q T (mkF m pc Ls (.long x :: st)) := by
  subst hn; exact E.via fun t k => XS.lneg P.here P.hx rfl (hb P.code hd) rfl k
theorem i2l (P : Pos p l e R s m args below meth c Z own nm bytes maxL ret n0 T h cells slots) {x : Int32} (hd : decode bytes pc = .ok (.i2l, 1)) (hn : n = pc + 1)
    (E : Ends p e below s R n0 Q T (mkF m n Ls (.long (x.toInt64) :: st))) : Ends p e below s R n0 Q T (mkF m pc Ls (.int x :: st)) := by
  subst hn; exact E.via fun t k => XS.i2l P.here P.hx rfl (hb P.code hd) rfl k
theorem l2i (P : Pos p l e R s m args below meth c Z own nm bytes maxL ret n0 T h cells slots) {x : Int64} (hd : decode bytes pc = .ok (.l2i, 1)) (hn : n = pc + 1)
    (E : Ends p e below s R n0 Q T (mkF m n Ls (.int (x.toInt32) :: st))) : Ends p e below s R n0 Q T (mkF m pc Ls (.long x :: st)) := by
  subst hn; exact E.via fun t k => XS.l2i P.here P.hx rfl (hb P.code hd) rfl k
theorem i2b (P : Pos p l e R s m args below meth c Z own nm bytes maxL ret n0 T h cells slots) {x : Int32} (hd : decode bytes pc = .ok (.i2b, 1)) (hn : n = pc + 1)
    (E : Ends p e below s R n0 Q T (mkF m n Ls (.int (x.toInt8.toInt32) :: st))) : Ends p e below s R n0 Q T (mkF m pc Ls (.int x :: st)) := by
  subst hn; exact E.via fun t k => XS.i2b P.here P.hx rfl (hb P.code hd) rfl k
theorem i2s (P : Pos p l e R s m args below meth c Z own nm bytes maxL ret n0 T h cells slots) {x : Int32} (hd : decode bytes pc = .ok (.i2s, 1)) (hn : n = pc + 1)
    (E : Ends p e below s R n0 Q T (mkF m n Ls (.int (x.toInt16.toInt32) :: st))) : Ends p e below s R n0 Q T (mkF m pc Ls (.int x :: st)) := by
  subst hn; exact E.via fun t k => XS.i2s P.here P.hx rfl (hb P.code hd) rfl k
theorem i2c (P : Pos p l e R s m args below meth c Z own nm bytes maxL ret n0 T h cells slots) {x : Int32} (hd : decode bytes pc = .ok (.i2c, 1)) (hn : n = pc + 1)
    (E : Ends p e below s R n0 Q T (mkF m n Ls (.int (x.toUInt32.toUInt16.toUInt32.toInt32) :: st))) : Ends p e below s R n0 Q T (mkF m pc Ls (.int x :: st)) := by
  subst hn; exact E.via fun t k => XS.i2c P.here P.hx rfl (hb P.code hd) rfl k
theorem lcmp (P : Pos p l e R s m args below meth c Z own nm bytes maxL ret n0 T h cells slots) {x y : Int64} (hd : decode bytes pc = .ok (.lcmp, 1)) (hn : n = pc + 1)
    (E : Ends p e below s R n0 Q T (mkF m n Ls (.int (lcmpW x y) :: st))) : Ends p e below s R n0 Q T (mkF m pc Ls (.long y :: .long x :: st)) := by
  subst hn; exact E.via fun t k => XS.lcmp P.here P.hx rfl (hb P.code hd) rfl k
theorem iinc (P : Pos p l e R s m args below meth c Z own nm bytes maxL ret n0 T h cells slots) {j : Nat} {cst : Int} {x : Int32} {l' : Array Slot} (hd : decode bytes pc = .ok (.iinc j cst, 3)) {y : Int32} (hl : Ls[j]? = some (.val (.int x))) (hy : y = Int32.ofInt cst) (hl' : storeLocals Ls j (.int (x + Int32.ofInt cst)) = some l') (hn : n = pc + 3)
    (E : Ends p e below s R n0 Q T (mkF m n l' st)) : Ends p e below s R n0 Q T (mkF m pc Ls st) := by
  subst hn; exact E.via fun t k => XS.iinc P.here P.hx rfl (hb P.code hd) hl hl' k
theorem dup (P : Pos p l e R s m args below meth c Z own nm bytes maxL ret n0 T h cells slots) {x : Value} (hd : decode bytes pc = .ok (.dup, 1)) (hc : x.category = 1) (hn : n = pc + 1)
    (E : Ends p e below s R n0 Q T (mkF m n Ls (x :: x :: st))) : Ends p e below s R n0 Q T (mkF m pc Ls (x :: st)) := by
  subst hn; exact E.via fun t k => XS.dup P.here P.hx rfl (hb P.code hd) rfl hc k
theorem dupX1 (P : Pos p l e R s m args below meth c Z own nm bytes maxL ret n0 T h cells slots) {x y : Value} (hd : decode bytes pc = .ok (.dup_x1, 1)) (hc : x.category = 1) (hc' : y.category = 1) (hn : n = pc + 1)
    (E : Ends p e below s R n0 Q T (mkF m n Ls (x :: y :: x :: st))) : Ends p e below s R n0 Q T (mkF m pc Ls (x :: y :: st)) := by
  subst hn; exact E.via fun t k => XS.dupX1 P.here P.hx rfl (hb P.code hd) rfl hc hc' k
theorem popV (P : Pos p l e R s m args below meth c Z own nm bytes maxL ret n0 T h cells slots) {x : Value} (hd : decode bytes pc = .ok (.pop, 1)) (hc : x.category = 1) (hn : n = pc + 1)
    (E : Ends p e below s R n0 Q T (mkF m n Ls st)) : Ends p e below s R n0 Q T (mkF m pc Ls (x :: st)) := by
  subst hn; exact E.via fun t k => XS.pop P.here P.hx rfl (hb P.code hd) rfl hc k
theorem goto {o : Int} (P : Pos p l e R s m args below meth c Z own nm bytes maxL ret n0 T h cells slots) (hd : decode bytes pc = .ok (.goto o, 3)) (ho : 0 ≤ (pc : Int) + o ∧ ((pc : Int) + o).toNat = n) (E : Ends p e below s R n0 Q T (mkF m n Ls st)) : Ends p e below s R n0 Q T (mkF m pc Ls st) :=
  E.via fun t k => XS.goto P.here P.hx rfl (pc0 := pc) (pc' := n) rfl (hb P.code hd) ho.1 ho.2 k
theorem icmpB {cd : ClassFile.Cond} {o : Int} {x y : Int32} {n' : Nat} (P : Pos p l e R s m args below meth c Z own nm bytes maxL ret n0 T h cells slots) (hd : decode bytes pc = .ok (.if_icmp cd o, 3)) (ho : 0 ≤ (pc : Int) + o ∧ ((pc : Int) + o).toNat = n') (hn : n = pc + 3)
    (Et : if_icmp.holds cd x y = true → Ends p e below s R n0 Q T (mkF m n' Ls st)) (Ef : if_icmp.holds cd x y = false → Ends p e below s R n0 Q T (mkF m n Ls st)) : Ends p e below s R n0 Q T (mkF m pc Ls (.int y :: .int x :: st)) := by
  subst hn
  cases hq : if_icmp.holds cd x y with
  | true => exact (Et hq).via fun t k => XS.icmpYes P.here P.hx rfl (pc0 := pc) (pc' := n') rfl (hb P.code hd) rfl hq ho.1 ho.2 k
  | false => exact (Ef hq).via fun t k => XS.icmpNo P.here P.hx rfl (hb P.code hd) rfl hq k
theorem ifB {cd : ClassFile.Cond} {o : Int} {x : Int32} {n' : Nat} (P : Pos p l e R s m args below meth c Z own nm bytes maxL ret n0 T h cells slots) (hd : decode bytes pc = .ok (.ifCond cd o, 3)) (ho : 0 ≤ (pc : Int) + o ∧ ((pc : Int) + o).toNat = n') (hn : n = pc + 3)
    (Et : ifCond.holds cd x = true → Ends p e below s R n0 Q T (mkF m n' Ls st)) (Ef : ifCond.holds cd x = false → Ends p e below s R n0 Q T (mkF m n Ls st)) : Ends p e below s R n0 Q T (mkF m pc Ls (.int x :: st)) := by
  subst hn
  cases hq : ifCond.holds cd x with
  | true => exact (Et hq).via fun t k => XS.ifYes P.here P.hx rfl (pc0 := pc) (pc' := n') rfl (hb P.code hd) rfl hq ho.1 ho.2 k
  | false => exact (Ef hq).via fun t k => XS.ifNo P.here P.hx rfl (hb P.code hd) rfl hq k
theorem acmpB {cd : ACond} {o : Int} {x y : Value} {n' : Nat} (P : Pos p l e R s m args below meth c Z own nm bytes maxL ret n0 T h cells slots) (hd : decode bytes pc = .ok (.if_acmp cd o, 3)) (h1 : x.isRef = true) (h2 : y.isRef = true) (ho : 0 ≤ (pc : Int) + o ∧ ((pc : Int) + o).toNat = n') (hn : n = pc + 3)
    (Et : acV cd (decide (x = y)) = true → Ends p e below s R n0 Q T (mkF m n' Ls st)) (Ef : acV cd (decide (x = y)) = false → Ends p e below s R n0 Q T (mkF m n Ls st)) : Ends p e below s R n0 Q T (mkF m pc Ls (y :: x :: st)) := by
  subst hn
  obtain ⟨_, X, -⟩ := P.stand
  cases hq : acV cd (decide (x = y)) with
  | true => exact (Et hq).via fun t k => Jvm.RoadKit.acmp (g := mkF m pc Ls (y :: x :: st)) X P.hx rfl h1 h2 (pc0 := pc) (pc' := n') (same := decide (x = y)) rfl (hb P.code hd) rfl rfl ho.1 (by rw [hq]; simp [ho.2]) k
  | false => exact (Ef hq).via fun t k => Jvm.RoadKit.acmp (g := mkF m pc Ls (y :: x :: st)) X P.hx rfl h1 h2 (pc0 := pc) (pc' := pc + 3) (same := decide (x = y)) rfl (hb P.code hd) rfl rfl ho.1 (by rw [hq]; simp) k
/-! what the conditions say, in numbers -/
def cP (cd : ClassFile.Cond) (x y : Int) : Prop := match cd with | .eq => x = y | .ne => ¬ x = y | .lt => x < y | .ge => y ≤ x | .gt => y < x | .le => x ≤ y
theorem ii {cd : ClassFile.Cond} {x y : Int32} {b : Bool} (q : if_icmp.holds cd x y = b) : cP cd x.toInt y.toInt ↔ b = true := by
  subst q; cases cd <;> simp [cP, if_icmp.holds, Int32.lt_iff_toInt_lt, Int32.le_iff_toInt_le, Int32.toInt_inj]
theorem i0 {cd : ClassFile.Cond} {x : Int32} {b : Bool} (q : ifCond.holds cd x = b) : cP cd x.toInt 0 ↔ b = true := ii ((if0 cd x).symm.trans q)
theorem l0 {cd : ClassFile.Cond} {x y : Int64} {b : Bool} (q : ifCond.holds cd (lcmpW x y) = b) : cP cd x.toInt y.toInt ↔ b = true := by
  have h1 := i0 q
  obtain ⟨c1, c2, c3⟩ := c_lcmp x y
  rw [← h1]
  cases cd <;> simp only [cP] <;> (rcases Int.lt_trichotomy x.toInt y.toInt with g | g | g) <;> first | (have := c1 g; omega) | (have := c2 g; omega) | (have := c3 g; omega)
theorem icmp_eq {o : Int} {x y : Int32} {n' : Nat} (P : Pos p l e R s m args below meth c Z own nm bytes maxL ret n0 T h cells slots) (hd : decode bytes pc = .ok (.if_icmp .eq o, 3)) (ho : 0 ≤ (pc : Int) + o ∧ ((pc : Int) + o).toNat = n') (hn : n = pc + 3)
    (Et : x.toInt = y.toInt → Ends p e below s R n0 Q T (mkF m n' Ls st)) (Ef : ¬ x.toInt = y.toInt → Ends p e below s R n0 Q T (mkF m n Ls st)) : Ends p e below s R n0 Q T (mkF m pc Ls (.int y :: .int x :: st)) :=
  icmpB P hd ho hn (fun q => Et (by have := ii q; simp only [cP, iff_true] at this; exact this)) (fun q => Ef (by have := ii q; simp only [cP, Bool.false_eq_true, iff_false] at this; omega))
theorem if0_eq {o : Int} {x : Int32} {n' : Nat} (P : Pos p l e R s m args below meth c Z own nm bytes maxL ret n0 T h cells slots) (hd : decode bytes pc = .ok (.ifCond .eq o, 3)) (ho : 0 ≤ (pc : Int) + o ∧ ((pc : Int) + o).toNat = n') (hn : n = pc + 3)
    (Et : x.toInt = 0 → Ends p e below s R n0 Q T (mkF m n' Ls st)) (Ef : ¬ x.toInt = 0 → Ends p e below s R n0 Q T (mkF m n Ls st)) : Ends p e below s R n0 Q T (mkF m pc Ls (.int x :: st)) :=
  ifB P hd ho hn (fun q => Et (by have := i0 q; simp only [cP, iff_true] at this; exact this)) (fun q => Ef (by have := i0 q; simp only [cP, Bool.false_eq_true, iff_false] at this; omega))
theorem ifl_eq {o : Int} {x y : Int64} {n' : Nat} (P : Pos p l e R s m args below meth c Z own nm bytes maxL ret n0 T h cells slots) (hd : decode bytes pc = .ok (.ifCond .eq o, 3)) (ho : 0 ≤ (pc : Int) + o ∧ ((pc : Int) + o).toNat = n') (hn : n = pc + 3)
    (Et : x.toInt = y.toInt → Ends p e below s R n0 Q T (mkF m n' Ls st)) (Ef : ¬ x.toInt = y.toInt → Ends p e below s R n0 Q T (mkF m n Ls st)) : Ends p e below s R n0 Q T (mkF m pc Ls (.int (lcmpW x y) :: st)) :=
  ifB P hd ho hn (fun q => Et (by have := l0 q; simp only [cP, iff_true] at this; exact this)) (fun q => Ef (by have := l0 q; simp only [cP, Bool.false_eq_true, iff_false] at this; omega))
theorem icmp_ne {o : Int} {x y : Int32} {n' : Nat} (P : Pos p l e R s m args below meth c Z own nm bytes maxL ret n0 T h cells slots) (hd : decode bytes pc = .ok (.if_icmp .ne o, 3)) (ho : 0 ≤ (pc : Int) + o ∧ ((pc : Int) + o).toNat = n') (hn : n = pc + 3)
    (Et : ¬ x.toInt = y.toInt → Ends p e below s R n0 Q T (mkF m n' Ls st)) (Ef : x.toInt = y.toInt → Ends p e below s R n0 Q T (mkF m n Ls st)) : Ends p e below s R n0 Q T (mkF m pc Ls (.int y :: .int x :: st)) :=
  icmpB P hd ho hn (fun q => Et (by have := ii q; simp only [cP, iff_true] at this; exact this)) (fun q => Ef (by have := ii q; simp only [cP, Bool.false_eq_true, iff_false] at this; omega))
theorem if0_ne {o : Int} {x : Int32} {n' : Nat} (P : Pos p l e R s m args below meth c Z own nm bytes maxL ret n0 T h cells slots) (hd : decode bytes pc = .ok (.ifCond .ne o, 3)) (ho : 0 ≤ (pc : Int) + o ∧ ((pc : Int) + o).toNat = n') (hn : n = pc + 3)
    (Et : ¬ x.toInt = 0 → Ends p e below s R n0 Q T (mkF m n' Ls st)) (Ef : x.toInt = 0 → Ends p e below s R n0 Q T (mkF m n Ls st)) : Ends p e below s R n0 Q T (mkF m pc Ls (.int x :: st)) :=
  ifB P hd ho hn (fun q => Et (by have := i0 q; simp only [cP, iff_true] at this; exact this)) (fun q => Ef (by have := i0 q; simp only [cP, Bool.false_eq_true, iff_false] at this; omega))
theorem ifl_ne {o : Int} {x y : Int64} {n' : Nat} (P : Pos p l e R s m args below meth c Z own nm bytes maxL ret n0 T h cells slots) (hd : decode bytes pc = .ok (.ifCond .ne o, 3)) (ho : 0 ≤ (pc : Int) + o ∧ ((pc : Int) + o).toNat = n') (hn : n = pc + 3)
    (Et : ¬ x.toInt = y.toInt → Ends p e below s R n0 Q T (mkF m n' Ls st)) (Ef : x.toInt = y.toInt → Ends p e below s R n0 Q T (mkF m n Ls st)) : Ends p e below s R n0 Q T (mkF m pc Ls (.int (lcmpW x y) :: st)) :=
  ifB P hd ho hn (fun q => Et (by have := l0 q; simp only [cP, iff_true] at this; exact this)) (fun q => Ef (by have := l0 q; simp only [cP, Bool.false_eq_true, iff_false] at this; omega))
theorem icmp_lt {o : Int} {x y : Int32} {n' : Nat} (P : Pos p l e R s m args below meth c Z own nm bytes maxL ret n0 T h cells slots) (hd : decode bytes pc = .ok (.if_icmp .lt o, 3)) (ho : 0 ≤ (pc : Int) + o ∧ ((pc : Int) + o).toNat = n') (hn : n = pc + 3)
    (Et : x.toInt < y.toInt → Ends p e below s R n0 Q T (mkF m n' Ls st)) (Ef : y.toInt ≤ x.toInt → Ends p e below s R n0 Q T (mkF m n Ls st)) : Ends p e below s R n0 Q T (mkF m pc Ls (.int y :: .int x :: st)) :=
  icmpB P hd ho hn (fun q => Et (by have := ii q; simp only [cP, iff_true] at this; exact this)) (fun q => Ef (by have := ii q; simp only [cP, Bool.false_eq_true, iff_false] at this; omega))
theorem if0_lt {o : Int} {x : Int32} {n' : Nat} (P : Pos p l e R s m args below meth c Z own nm bytes maxL ret n0 T h cells slots) (hd : decode bytes pc = .ok (.ifCond .lt o, 3)) (ho : 0 ≤ (pc : Int) + o ∧ ((pc : Int) + o).toNat = n') (hn : n = pc + 3)
    (Et : x.toInt < 0 → Ends p e below s R n0 Q T (mkF m n' Ls st)) (Ef : 0 ≤ x.toInt → Ends p e below s R n0 Q T (mkF m n Ls st)) : Ends p e below s R n0 Q T (mkF m pc Ls (.int x :: st)) :=
  ifB P hd ho hn (fun q => Et (by have := i0 q; simp only [cP, iff_true] at this; exact this)) (fun q => Ef (by have := i0 q; simp only [cP, Bool.false_eq_true, iff_false] at this; omega))
theorem ifl_lt {o : Int} {x y : Int64} {n' : Nat} (P : Pos p l e R s m args below meth c Z own nm bytes maxL ret n0 T h cells slots) (hd : decode bytes pc = .ok (.ifCond .lt o, 3)) (ho : 0 ≤ (pc : Int) + o ∧ ((pc : Int) + o).toNat = n') (hn : n = pc + 3)
    (Et : x.toInt < y.toInt → Ends p e below s R n0 Q T (mkF m n' Ls st)) (Ef : y.toInt ≤ x.toInt → Ends p e below s R n0 Q T (mkF m n Ls st)) : Ends p e below s R n0 Q T (mkF m pc Ls (.int (lcmpW x y) :: st)) :=
  ifB P hd ho hn (fun q => Et (by have := l0 q; simp only [cP, iff_true] at this; exact this)) (fun q => Ef (by have := l0 q; simp only [cP, Bool.false_eq_true, iff_false] at this; omega))
theorem icmp_ge {o : Int} {x y : Int32} {n' : Nat} (P : Pos p l e R s m args below meth c Z own nm bytes maxL ret n0 T h cells slots) (hd : decode bytes pc = .ok (.if_icmp .ge o, 3)) (ho : 0 ≤ (pc : Int) + o ∧ ((pc : Int) + o).toNat = n') (hn : n = pc + 3)
    (Et : y.toInt ≤ x.toInt → Ends p e below s R n0 Q T (mkF m n' Ls st)) (Ef : x.toInt < y.toInt → Ends p e below s R n0 Q T (mkF m n Ls st)) : Ends p e below s R n0 Q T (mkF m pc Ls (.int y :: .int x :: st)) :=
  icmpB P hd ho hn (fun q => Et (by have := ii q; simp only [cP, iff_true] at this; exact this)) (fun q => Ef (by have := ii q; simp only [cP, Bool.false_eq_true, iff_false] at this; omega))
theorem if0_ge {o : Int} {x : Int32} {n' : Nat} (P : Pos p l e R s m args below meth c Z own nm bytes maxL ret n0 T h cells slots) (hd : decode bytes pc = .ok (.ifCond .ge o, 3)) (ho : 0 ≤ (pc : Int) + o ∧ ((pc : Int) + o).toNat = n') (hn : n = pc + 3)
    (Et : 0 ≤ x.toInt → Ends p e below s R n0 Q T (mkF m n' Ls st)) (Ef : x.toInt < 0 → Ends p e below s R n0 Q T (mkF m n Ls st)) : Ends p e below s R n0 Q T (mkF m pc Ls (.int x :: st)) :=
  ifB P hd ho hn (fun q => Et (by have := i0 q; simp only [cP, iff_true] at this; exact this)) (fun q => Ef (by have := i0 q; simp only [cP, Bool.false_eq_true, iff_false] at this; omega))
theorem ifl_ge {o : Int} {x y : Int64} {n' : Nat} (P : Pos p l e R s m args below meth c Z own nm bytes maxL ret n0 T h cells slots) (hd : decode bytes pc = .ok (.ifCond .ge o, 3)) (ho : 0 ≤ (pc : Int) + o ∧ ((pc : Int) + o).toNat = n') (hn : n = pc + 3)
    (Et : y.toInt ≤ x.toInt → Ends p e below s R n0 Q T (mkF m n' Ls st)) (Ef : x.toInt < y.toInt → Ends p e below s R n0 Q T (mkF m n Ls st)) : Ends p e below s R n0 Q T (mkF m pc Ls (.int (lcmpW x y) :: st)) :=
  ifB P hd ho hn (fun q => Et (by have := l0 q; simp only [cP, iff_true] at this; exact this)) (fun q => Ef (by have := l0 q; simp only [cP, Bool.false_eq_true, iff_false] at this; omega))
theorem icmp_gt {o : Int} {x y : Int32} {n' : Nat} (P : Pos p l e R s m args below meth c Z own nm bytes maxL ret n0 T h cells slots) (hd : decode bytes pc = .ok (.if_icmp .gt o, 3)) (ho : 0 ≤ (pc : Int) + o ∧ ((pc : Int) + o).toNat = n') (hn : n = pc + 3)
    (Et : y.toInt < x.toInt → Ends p e below s R n0 Q T (mkF m n' Ls st)) (Ef : x.toInt ≤ y.toInt → Ends p e below s R n0 Q T (mkF m n Ls st)) : Ends p e below s R n0 Q T (mkF m pc Ls (.int y :: .int x :: st)) :=
  icmpB P hd ho hn (fun q => Et (by have := ii q; simp only [cP, iff_true] at this; exact this)) (fun q => Ef (by have := ii q; simp only [cP, Bool.false_eq_true, iff_false] at this; omega))
theorem if0_gt {o : Int} {x : Int32} {n' : Nat} (P : Pos p l e R s m args below meth c Z own nm bytes maxL ret n0 T h cells slots) (hd : decode bytes pc = .ok (.ifCond .gt o, 3)) (ho : 0 ≤ (pc : Int) + o ∧ ((pc : Int) + o).toNat = n') (hn : n = pc + 3)
    (Et : 0 < x.toInt → Ends p e below s R n0 Q T (mkF m n' Ls st)) (Ef : x.toInt ≤ 0 → Ends p e below s R n0 Q T (mkF m n Ls st)) : Ends p e below s R n0 Q T (mkF m pc Ls (.int x :: st)) :=
  ifB P hd ho hn (fun q => Et (by have := i0 q; simp only [cP, iff_true] at this; exact this)) (fun q => Ef (by have := i0 q; simp only [cP, Bool.false_eq_true, iff_false] at this; omega))
theorem ifl_gt {o : Int} {x y : Int64} {n' : Nat} (P : Pos p l e R s m args below meth c Z own nm bytes maxL ret n0 T h cells slots) (hd : decode bytes pc = .ok (.ifCond .gt o, 3)) (ho : 0 ≤ (pc : Int) + o ∧ ((pc : Int) + o).toNat = n') (hn : n = pc + 3)
    (Et : y.toInt < x.toInt → Ends p e below s R n0 Q T (mkF m n' Ls st)) (Ef : x.toInt ≤ y.toInt → Ends p e below s R n0 Q T (mkF m n Ls st)) : Ends p e below s R n0 Q T (mkF m pc Ls (.int (lcmpW x y) :: st)) :=
  ifB P hd ho hn (fun q => Et (by have := l0 q; simp only [cP, iff_true] at this; exact this)) (fun q => Ef (by have := l0 q; simp only [cP, Bool.false_eq_true, iff_false] at this; omega))
theorem icmp_le {o : Int} {x y : Int32} {n' : Nat} (P : Pos p l e R s m args below meth c Z own nm bytes maxL ret n0 T h cells slots) (hd : decode bytes pc = .ok (.if_icmp .le o, 3)) (ho : 0 ≤ (pc : Int) + o ∧ ((pc : Int) + o).toNat = n') (hn : n = pc + 3)
    (Et : x.toInt ≤ y.toInt → Ends p e below s R n0 Q T (mkF m n' Ls st)) (Ef : y.toInt < x.toInt → Ends p e below s R n0 Q T (mkF m n Ls st)) : Ends p e below s R n0 Q T (mkF m pc Ls (.int y :: .int x :: st)) :=
  icmpB P hd ho hn (fun q => Et (by have := ii q; simp only [cP, iff_true] at this; exact this)) (fun q => Ef (by have := ii q; simp only [cP, Bool.false_eq_true, iff_false] at this; omega))
theorem if0_le {o : Int} {x : Int32} {n' : Nat} (P : Pos p l e R s m args below meth c Z own nm bytes maxL ret n0 T h cells slots) (hd : decode bytes pc = .ok (.ifCond .le o, 3)) (ho : 0 ≤ (pc : Int) + o ∧ ((pc : Int) + o).toNat = n') (hn : n = pc + 3)
    (Et : x.toInt ≤ 0 → Ends p e below s R n0 Q T (mkF m n' Ls st)) (Ef : 0 < x.toInt → Ends p e below s R n0 Q T (mkF m n Ls st)) : Ends p e below s R n0 Q T (mkF m pc Ls (.int x :: st)) :=
  ifB P hd ho hn (fun q => Et (by have := i0 q; simp only [cP, iff_true] at this; exact this)) (fun q => Ef (by have := i0 q; simp only [cP, Bool.false_eq_true, iff_false] at this; omega))
theorem ifl_le {o : Int} {x y : Int64} {n' : Nat} (P : Pos p l e R s m args below meth c Z own nm bytes maxL ret n0 T h cells slots) (hd : decode bytes pc = .ok (.ifCond .le o, 3)) (ho : 0 ≤ (pc : Int) + o ∧ ((pc : Int) + o).toNat = n') (hn : n = pc + 3)
    (Et : x.toInt ≤ y.toInt → Ends p e below s R n0 Q T (mkF m n' Ls st)) (Ef : y.toInt < x.toInt → Ends p e below s R n0 Q T (mkF m n Ls st)) : Ends p e below s R n0 Q T (mkF m pc Ls (.int (lcmpW x y) :: st)) :=
  ifB P hd ho hn (fun q => Et (by have := l0 q; simp only [cP, iff_true] at this; exact this)) (fun q => Ef (by have := l0 q; simp only [cP, Bool.false_eq_true, iff_false] at this; omega))
theorem aT {x y : Value} (q : acV .eq (decide (x = y)) = true) : x = y := by simpa [acV] using q
theorem aF {x y : Value} (q : acV .eq (decide (x = y)) = false) : ¬ x = y := by simpa [acV] using q
theorem nT {x y : Value} (q : acV .ne (decide (x = y)) = true) : ¬ x = y := by simpa [acV] using q
theorem nF {x y : Value} (q : acV .ne (decide (x = y)) = false) : x = y := by simpa [acV] using q
/-! constants, statics, fields, objects -/
theorem ldcI {index : Nat} {v : Int32} (P : Pos p l e R s m args below meth c Z own nm bytes maxL ret n0 T h cells slots) (hd : decode bytes pc = .ok (.ldc index, 2)) (w : (Cond.constant own index v).before a0 Z = true) (hn : n = pc + 2) (E : Ends p e below s R n0 Q T (mkF m n Ls (.int v :: st))) : Ends p e below s R n0 Q T (mkF m pc Ls st) := by
  subst hn; obtain ⟨_, X, -⟩ := P.stand
  exact E.via fun t k => X.ldcInt P.hx P.own' (mvT P.hZ w) (g := mkF m pc Ls st) rfl (hb P.code hd) t k
theorem ldc2J {index : Nat} {v : Int64} (P : Pos p l e R s m args below meth c Z own nm bytes maxL ret n0 T h cells slots) (hd : decode bytes pc = .ok (.ldc2_w index, 3)) (w : (Cond.constantLong own index v).before a0 Z = true) (hn : n = pc + 3) (E : Ends p e below s R n0 Q T (mkF m n Ls (.long v :: st))) : Ends p e below s R n0 Q T (mkF m pc Ls st) := by
  subst hn; obtain ⟨_, X, -⟩ := P.stand
  exact E.via fun t k => X.ldc2Long P.hx P.own' (mvT P.hZ w) (g := mkF m pc Ls st) rfl (hb P.code hd) t k
theorem getS {index : Nat} {O f d : String} {v : Value} (P : Pos p l e R s m args below meth c Z own nm bytes maxL ret n0 T h cells slots) (hd : decode bytes pc = .ok (.getstatic index, 3)) (w : (Cond.fieldLink own index O f d).before a0 Z = true) (F : Sta Z h O f d v) (hn : n = pc + 3)
    (E : ∀ T, Pos p l e R s m args below meth c Z own nm bytes maxL ret n0 T h cells slots → Ends p e below s R n0 Q T (mkF m n Ls (v :: st))) : Ends p e below s R n0 Q T (mkF m pc Ls st) := by
  subst hn; obtain ⟨_, X, N⟩ := P.stand
  obtain ⟨T', X', e', k⟩ := Jvm.RoadKit.getS (host := "") X P.hx P.hZ P.own' w Via.refl P.heap F (g := mkF m pc Ls st) rfl (hb P.code hd)
  exact (E T' (P.to X' N e')).via k
theorem getF {index : Nat} {O f d : String} {v : Value} {a : Addr} (P : Pos p l e R s m args below meth c Z own nm bytes maxL ret n0 T h cells slots) (hd : decode bytes pc = .ok (.getfield index, 3)) (w : (Cond.fieldLink own index O f d).before a0 Z = true) (F : Fld Z h a O f d v) (hn : n = pc + 3)
    (E : ∀ T, Pos p l e R s m args below meth c Z own nm bytes maxL ret n0 T h cells slots → Ends p e below s R n0 Q T (mkF m n Ls (v :: st))) : Ends p e below s R n0 Q T (mkF m pc Ls (.ref a :: st)) := by
  subst hn; obtain ⟨_, X, N⟩ := P.stand
  obtain ⟨T', X', e', k⟩ := Jvm.RoadKit.getF (host := "") X P.hx P.hZ P.own' (Or.inl w) Via.refl P.heap F (g := mkF m pc Ls (.ref a :: st)) rfl rfl (hb P.code hd)
  exact (E T' (P.to X' N e')).via k
theorem putF {index kk : Nat} {O f d C : String} {v old : Value} {a : Addr} {ty : FieldType} (P : Pos p l e R s m args below meth c Z own nm bytes maxL ret n0 T h cells slots) (hd : decode bytes pc = .ok (.putfield index, 3)) (w : (Cond.fieldLink own index O f d).before a0 Z = true) (F : Fld Z h a O f d old) (X0 : Exa Z h a C)
    (L : (Cond.lays C O f d).before a0 Z = true ∨ ((Cond.laysFinal C O f d).before a0 Z = true ∧ own = O ∧ nm = "<init>")) (wi : (Cond.instantiable C kk).before a0 Z = true) (hty : parseFieldDescriptor d = some ty) (hnw : narrow ty v = v) (hf : fits ty v = true) (ha : n0 ≤ a) (hn : n = pc + 3)
    (E : ∀ T h', Pos p l e R s m args below meth c Z own nm bytes maxL ret n0 T h' cells slots → Wr h h' a (Jvm.RoadKit.slotOf Z O f d) v → Ends p e below s R n0 Q T (mkF m n Ls st)) : Ends p e below s R n0 Q T (mkF m pc Ls (v :: .ref a :: st)) := by
  subst hn; obtain ⟨_, X, N⟩ := P.stand
  obtain ⟨T', h', X', e', W, k⟩ := Jvm.RoadKit.putF (host := "") X P.hx P.hZ P.own' (Or.inl w) Via.refl P.heap F X0 (L.imp id fun q => ⟨q.1, q.2.1, P.name.trans q.2.2⟩) wi hty hnw hf (g := mkF m pc Ls (v :: .ref a :: st)) rfl rfl (hb P.code hd)
  exact (E T' h' (P.to X' (Fr.snoc X' N ha) e') W).via k
theorem newO {index k : Nat} {C : String} (P : Pos p l e R s m args below meth c Z own nm bytes maxL ret n0 T h cells slots) (hd : decode bytes pc = .ok (.new index, 3)) (w : (Cond.classLink own index C).before a0 Z = true) (wi : (Cond.instantiable C k).before a0 Z = true) (wz : (Cond.initialized C).before a0 Z = true) (hc : cells + 1 ≤ R.cells) (hl : slots + k ≤ R.slots) (hn : n = pc + 3)
    (E : ∀ T h' a, Pos p l e R s m args below meth c Z own nm bytes maxL ret n0 T h' (cells + 1) (slots + k) → Ext h h' → a = h.size → n0 ≤ a → Exa Z h' a C → (∀ {O f d : String} {ty : FieldType}, Laid Z a0 C O f d → parseFieldDescriptor d = some ty → Fld Z h' a O f d (defaultValue ty)) → Ends p e below s R n0 Q T (mkF m n Ls (.ref a :: st))) : Ends p e below s R n0 Q T (mkF m pc Ls st) := by
  subst hn; obtain ⟨_, X, N⟩ := P.stand
  obtain ⟨T', h', X', e', Ex, A, D, -, kk⟩ := Jvm.RoadKit.newO X P.hx P.hZ P.own' w wi wz P.heap (g := mkF m pc Ls st) rfl (hb P.code hd) hc hl
  exact (E T' h' _ (P.to X' N e') Ex rfl P.low A D).via kk
theorem initO {index : Nat} {a : Addr} (P : Pos p l e R s m args below meth c Z own nm bytes maxL ret n0 T h cells slots) (hd : decode bytes pc = .ok (.invokespecial index, 3)) (w1 : (Cond.methodLink own index Lib.objectInit).before a0 Z = true) (w2 : (Cond.instanceMethod Lib.objectInit).before a0 Z = true) (w3 : (Cond.code Lib.objectInit ⟨#[0xb1]⟩ 1 none).before a0 Z = true) (hsz : Ls.size = maxL)
    (hf : 1 ≤ R.frames) (hl : (st.map fun v => v.category).sum + 12 ≤ R.locals) (hn : n = pc + 3) (E : ∀ T, Pos p l e R s m args below meth c Z own nm bytes maxL ret n0 T h cells slots → Ends p e below s R n0 Q T (mkF m n Ls st)) : Ends p e below s R n0 Q T (mkF m pc Ls (.ref a :: st)) := by
  subst hn; obtain ⟨_, X, N⟩ := P.stand
  obtain ⟨T', X', e', k⟩ := Jvm.RoadKit.initO X P.hx P.hZ P.own' w1 w2 w3 P.heap (g := mkF m pc Ls (.ref a :: st)) rfl (hsz.trans P.maxl.symm) rfl (hb P.code hd) hf (W := (st.map fun v => v.category).sum) (by show 2 * 0 + _ ≤ _; omega) hl
  exact (E T' (P.to X' N e')).via k
/-! arrays: a length and what each place holds -/
def AR (Z : State) (h : Heap) (a : Addr) (ty : FieldType) (k : Nat) (f : Nat → Value) : Prop := ∃ cl : Cell, Arr Z h a cl ty ∧ cl.slots.size = k ∧ k < 2 ^ 31 ∧ ∀ i, i < k → cl.slots[i]? = some (f i)
/-- one place changed -/
def ovr {α : Type} (g : Nat → α) (i : Nat) (x : α) : Nat → α := fun j => if j = i then x else g j
theorem ovr_at {α : Type} (g : Nat → α) (i : Nat) (x : α) : ovr g i x i = x := by simp [ovr]
theorem ovr_ne {α : Type} (g : Nat → α) {i j : Nat} (x : α) (q : j ≠ i) : ovr g i x j = g j := by simp [ovr, q]
abbrev ARI (Z : State) (h : Heap) (a : Addr) (ty : FieldType) (k : Nat) (g : Nat → Int32) : Prop := AR Z h a ty k (fun i => .int (g i))
abbrev ARJ (Z : State) (h : Heap) (a : Addr) (k : Nat) (g : Nat → Int64) : Prop := AR Z h a .long k (fun i => .long (g i))
variable {a b : Addr} {ty : FieldType} {k : Nat} {f : Nat → Value}
theorem AR.lt (A : AR Z h a ty k f) : a < h.size := by obtain ⟨_, B, -⟩ := A; exact B.lt
theorem AR.len (A : AR Z h a ty k f) : k < 2 ^ 31 := by obtain ⟨_, _, _, r, _⟩ := A; exact r
theorem AR.ext (A : AR Z h a ty k f) (E : Ext h h') : AR Z h' a ty k f := by obtain ⟨cl, B, r⟩ := A; exact ⟨cl, B.ext E, r⟩
theorem AR.other {sl : Nat} {v : Value} (A : AR Z h b ty k f) (W : Wr h h' a sl v) (q : b ≠ a) : AR Z h' b ty k f := by obtain ⟨cl, B, r⟩ := A; exact ⟨cl, B.other W q, r⟩
theorem AR.keep {ws : List Addr} (A : AR Z h a ty k f) (K : Keep h h' ws) (q : a ∉ ws) : AR Z h' a ty k f := by obtain ⟨cl, B, r⟩ := A; exact ⟨cl, ⟨K.2.1 a cl B.1 q, B.2⟩, r⟩
theorem AR.congr {g : Nat → Value} (A : AR Z h a ty k f) (q : ∀ i, i < k → f i = g i) : AR Z h a ty k g := by obtain ⟨cl, B, r1, r2, r3⟩ := A; exact ⟨cl, B, r1, r2, fun i hi => by rw [r3 i hi, q i hi]⟩
theorem AR.set {i : Nat} {v : Value} (A : AR Z h a ty k f) (W : Wr h h' a i v) : AR Z h' a ty k (ovr f i v) := by
  obtain ⟨cl, B, r1, r2, r3⟩ := A
  refine ⟨_, B.same W, by rw [sz_set]; exact r1, r2, fun j hj => ?_⟩
  by_cases u : j = i
  · subst u; simp [Cell.setSlot, r1, hj, ovr]
  · simp only [Cell.setSlot, ovr, if_neg u]
    rw [Array.getElem?_setIfInBounds_ne (Ne.symm u)]; exact r3 j hj
theorem ARI.set {g : Nat → Int32} {i : Nat} {x : Int32} (A : ARI Z h a ty k g) (W : Wr h h' a i (.int x)) : ARI Z h' a ty k (ovr g i x) := by
  refine (AR.set A W).congr fun j _ => ?_
  by_cases u : j = i <;> simp [ovr, u]
theorem ARJ.set {g : Nat → Int64} {i : Nat} {x : Int64} (A : ARJ Z h a k g) (W : Wr h h' a i (.long x)) : ARJ Z h' a k (ovr g i x) := by
  refine (AR.set A W).congr fun j _ => ?_
  by_cases u : j = i <;> simp [ovr, u]
theorem inA {j : Int32} {i : Nat} {cl : Cell} (q : j.toInt = i ∧ i < k) (e : cl.slots.size = k) : ¬ (j < 0 ∨ cl.slots.size ≤ j.toNatClampNeg) ∧ j.toNatClampNeg = i := by
  have e0 : (0 : Int32).toInt = 0 := rfl
  simp only [Int32.lt_iff_toInt_lt, Int32.toNatClampNeg, e, e0]; omega
theorem newP {aty : ArrayType} {x : Int32} {cap : Nat} (P : Pos p l e R s m args below meth c Z own nm bytes maxL ret n0 T h cells slots) (hd : decode bytes pc = .ok (.newarray aty, 2)) (w : (Cond.arrayClass (newarray.typeOf aty)).before a0 Z = true) (hx : x.toInt = k ∧ k ≤ cap) (hb' : cap * 8 ≤ 536870912) (hc : cells + 1 ≤ R.cells ∧ slots + cap ≤ R.slots) (hn : n = pc + 2)
    (E : ∀ T h' a, Pos p l e R s m args below meth c Z own nm bytes maxL ret n0 T h' (cells + 1) (slots + cap) → Ext h h' → a = h.size → n0 ≤ a → AR Z h' a (newarray.typeOf aty) k (fun _ => defaultValue (newarray.typeOf aty)) → Ends p e below s R n0 Q T (mkF m n Ls (.ref a :: st))) : Ends p e below s R n0 Q T (mkF m pc Ls (.int x :: st)) := by
  subst hn; obtain ⟨_, X, N⟩ := P.stand
  have e0 : (0 : Int32).toInt = 0 := rfl
  have q1 : ¬ x < 0 := by rw [Int32.lt_iff_toInt_lt, e0]; omega
  have q2 : x.toNatClampNeg = k := by simp only [Int32.toNatClampNeg]; omega
  obtain ⟨T', h', cA, X', e', Ex, A, kk⟩ := Jvm.RoadKit.newP X P.hx P.hZ w P.heap (g := mkF m pc Ls (.int x :: st)) rfl (hb P.code hd) rfl q1 (cap := cap) (by omega) hb' hc.1 hc.2
  refine (E T' h' _ (P.to X' N e') Ex rfl P.low ⟨_, A, (sz_new _ _ _).trans q2, by have := rng32 x; omega, fun i hi => ?_⟩).via kk
  rw [← q2] at hi
  simp [newA, hi]
theorem ldA {i : Instr} {j : Int32} {u : Nat} {v : Value} (P : Pos p l e R s m args below meth c Z own nm bytes maxL ret n0 T h cells slots) (hd : decode bytes pc = .ok (i, 1)) (A : AR Z h a ty k f) (hi : (i = .baload ∧ (ty = .byte ∨ ty = .boolean)) ∨ (i = .iaload ∧ ty = .int) ∨ (i = .laload ∧ ty = .long) ∨ (i = .caload ∧ ty = .char) ∨ (i = .aaload ∧ ty.isReference = true)) (hj : j.toInt = u ∧ u < k) (hv : v = f u) (hn : n = pc + 1)
    (E : Ends p e below s R n0 Q T (mkF m n Ls (v :: st))) : Ends p e below s R n0 Q T (mkF m pc Ls (.int j :: .ref a :: st)) := by
  subst hn hv; obtain ⟨_, X, N⟩ := P.stand
  obtain ⟨cl, B, r1, r2, r3⟩ := A
  obtain ⟨q1, q5⟩ := inA hj r1
  have q2 : cl.slots[j.toNatClampNeg]? = some (f u) := by rw [q5]; exact r3 _ hj.2
  have q3 : T.heap[a]? = some cl := by rw [P.heap]; exact B.1
  have q4 := State.isArrayOf_alike (T := s) P.hZ.alike B.2.1
  rcases hi with ⟨rfl, rfl | rfl⟩ | ⟨rfl, rfl⟩ | ⟨rfl, rfl⟩ | ⟨rfl, rfl⟩ | ⟨rfl, ht⟩
  · exact E.via fun t k => X.baloadBytes P.hx q3 q4 B.2.2 q1 q2 (g := mkF m pc Ls (.int j :: .ref a :: st)) rfl rfl (hb P.code hd) t k
  · exact E.via fun t k => X.baloadBooleans P.hx q3 q4 B.2.2 q1 q2 (g := mkF m pc Ls (.int j :: .ref a :: st)) rfl rfl (hb P.code hd) t k
  · exact E.via fun t k => X.iaload P.hx q3 q4 B.2.2 q1 q2 (g := mkF m pc Ls (.int j :: .ref a :: st)) rfl rfl (hb P.code hd) t k
  · exact E.via fun t k => X.laload P.hx q3 q4 B.2.2 q1 q2 (g := mkF m pc Ls (.int j :: .ref a :: st)) rfl rfl (hb P.code hd) t k
  · exact E.via fun t k => X.caload P.hx q3 q4 B.2.2 q1 q2 (g := mkF m pc Ls (.int j :: .ref a :: st)) rfl rfl (hb P.code hd) t k
  · exact E.via fun t k => X.aaload P.hx q3 q4 ht B.2.2 q1 q2 (g := mkF m pc Ls (.int j :: .ref a :: st)) rfl rfl (hb P.code hd) t k
theorem baloadI {j : Int32} {u : Nat} {g : Nat → Int32} (P : Pos p l e R s m args below meth c Z own nm bytes maxL ret n0 T h cells slots) (hd : decode bytes pc = .ok (.baload, 1)) (A : ARI Z h a .byte k g) (hj : j.toInt = u ∧ u < k) (hn : n = pc + 1) (E : Ends p e below s R n0 Q T (mkF m n Ls (.int (g u) :: st))) : Ends p e below s R n0 Q T (mkF m pc Ls (.int j :: .ref a :: st)) := ldA P hd A (Or.inl ⟨rfl, Or.inl rfl⟩) hj rfl hn E
theorem zaloadI {j : Int32} {u : Nat} {g : Nat → Int32} (P : Pos p l e R s m args below meth c Z own nm bytes maxL ret n0 T h cells slots) (hd : decode bytes pc = .ok (.baload, 1)) (A : ARI Z h a .boolean k g) (hj : j.toInt = u ∧ u < k) (hn : n = pc + 1) (E : Ends p e below s R n0 Q T (mkF m n Ls (.int (g u) :: st))) : Ends p e below s R n0 Q T (mkF m pc Ls (.int j :: .ref a :: st)) := ldA P hd A (Or.inl ⟨rfl, Or.inr rfl⟩) hj rfl hn E
theorem ialoadI {j : Int32} {u : Nat} {g : Nat → Int32} (P : Pos p l e R s m args below meth c Z own nm bytes maxL ret n0 T h cells slots) (hd : decode bytes pc = .ok (.iaload, 1)) (A : ARI Z h a .int k g) (hj : j.toInt = u ∧ u < k) (hn : n = pc + 1) (E : Ends p e below s R n0 Q T (mkF m n Ls (.int (g u) :: st))) : Ends p e below s R n0 Q T (mkF m pc Ls (.int j :: .ref a :: st)) := ldA P hd A (Or.inr (Or.inl ⟨rfl, rfl⟩)) hj rfl hn E
theorem laloadJ {j : Int32} {u : Nat} {g : Nat → Int64} (P : Pos p l e R s m args below meth c Z own nm bytes maxL ret n0 T h cells slots) (hd : decode bytes pc = .ok (.laload, 1)) (A : ARJ Z h a k g) (hj : j.toInt = u ∧ u < k) (hn : n = pc + 1) (E : Ends p e below s R n0 Q T (mkF m n Ls (.long (g u) :: st))) : Ends p e below s R n0 Q T (mkF m pc Ls (.int j :: .ref a :: st)) := ldA P hd A (Or.inr (Or.inr (Or.inl ⟨rfl, rfl⟩))) hj rfl hn E
theorem alen {x : Int32} (P : Pos p l e R s m args below meth c Z own nm bytes maxL ret n0 T h cells slots) (hd : decode bytes pc = .ok (.arraylength, 1)) (A : AR Z h a ty k f) (hx : x.toInt = k) (hn : n = pc + 1)
    (E : Ends p e below s R n0 Q T (mkF m n Ls (.int x :: st))) : Ends p e below s R n0 Q T (mkF m pc Ls (.ref a :: st)) := by
  subst hn; obtain ⟨_, X, N⟩ := P.stand
  obtain ⟨cl, B, r1, r2, r3⟩ := A
  have q4 := State.isArrayOf_alike (T := s) P.hZ.alike B.2.1
  have q5 : cl.slots.size.toInt32 = x := by rw [← Int32.toInt_inj, len_toInt (by omega), r1, hx]
  exact E.via fun t k => X.arraylength P.hx (by rw [P.heap]; exact B.1) q4 (g := mkF m pc Ls (.ref a :: st)) rfl rfl (hb P.code hd) t (by rw [q5]; exact k)
theorem stI {j : Int32} {u : Nat} {x : Int32} (P : Pos p l e R s m args below meth c Z own nm bytes maxL ret n0 T h cells slots) (hd : decode bytes pc = .ok (.iastore, 1)) (A : AR Z h a .int k f) (hj : j.toInt = u ∧ u < k) (ha : n0 ≤ a) (hn : n = pc + 1)
    (E : ∀ T h', Pos p l e R s m args below meth c Z own nm bytes maxL ret n0 T h' cells slots → Wr h h' a u (.int (x)) → Ends p e below s R n0 Q T (mkF m n Ls st)) : Ends p e below s R n0 Q T (mkF m pc Ls (.int x :: .int j :: .ref a :: st)) := by
  subst hn; obtain ⟨_, X, N⟩ := P.stand
  obtain ⟨cl, B, r1, r2, r3⟩ := A
  obtain ⟨q1, q5⟩ := inA hj r1
  obtain ⟨T', h', X', e', W, kk⟩ := Jvm.RoadKit.stI X P.hx P.hZ P.heap B q1 (g := mkF m pc Ls (.int x :: .int j :: .ref a :: st)) rfl rfl (hb P.code hd)
  rw [q5] at W X'
  refine (E T' h' (P.to X' (Fr.snoc X' N ha) e') ?_).via kk
  exact W
theorem stJ {j : Int32} {u : Nat} {x : Int64} (P : Pos p l e R s m args below meth c Z own nm bytes maxL ret n0 T h cells slots) (hd : decode bytes pc = .ok (.lastore, 1)) (A : AR Z h a .long k f) (hj : j.toInt = u ∧ u < k) (ha : n0 ≤ a) (hn : n = pc + 1)
    (E : ∀ T h', Pos p l e R s m args below meth c Z own nm bytes maxL ret n0 T h' cells slots → Wr h h' a u (.long (x)) → Ends p e below s R n0 Q T (mkF m n Ls st)) : Ends p e below s R n0 Q T (mkF m pc Ls (.long x :: .int j :: .ref a :: st)) := by
  subst hn; obtain ⟨_, X, N⟩ := P.stand
  obtain ⟨cl, B, r1, r2, r3⟩ := A
  obtain ⟨q1, q5⟩ := inA hj r1
  obtain ⟨T', h', X', e', W, kk⟩ := Jvm.RoadKit.stJ X P.hx P.hZ P.heap B q1 (g := mkF m pc Ls (.long x :: .int j :: .ref a :: st)) rfl rfl (hb P.code hd)
  rw [q5] at W X'
  refine (E T' h' (P.to X' (Fr.snoc X' N ha) e') ?_).via kk
  exact W
theorem stB {j : Int32} {u : Nat} {x : Int32} (P : Pos p l e R s m args below meth c Z own nm bytes maxL ret n0 T h cells slots) (hd : decode bytes pc = .ok (.bastore, 1)) (A : AR Z h a .byte k f) (hj : j.toInt = u ∧ u < k) (ha : n0 ≤ a) (hn : n = pc + 1)
    (E : ∀ T h', Pos p l e R s m args below meth c Z own nm bytes maxL ret n0 T h' cells slots → Wr h h' a u (.int (x.toInt8.toInt32)) → Ends p e below s R n0 Q T (mkF m n Ls st)) : Ends p e below s R n0 Q T (mkF m pc Ls (.int x :: .int j :: .ref a :: st)) := by
  subst hn; obtain ⟨_, X, N⟩ := P.stand
  obtain ⟨cl, B, r1, r2, r3⟩ := A
  obtain ⟨q1, q5⟩ := inA hj r1
  obtain ⟨T', h', X', e', W, kk⟩ := Jvm.RoadKit.stB X P.hx P.hZ P.heap B q1 (g := mkF m pc Ls (.int x :: .int j :: .ref a :: st)) rfl rfl (hb P.code hd)
  rw [q5] at W X'
  refine (E T' h' (P.to X' (Fr.snoc X' N ha) e') ?_).via kk
  exact W
theorem stZ {j : Int32} {u : Nat} {x : Int32} (P : Pos p l e R s m args below meth c Z own nm bytes maxL ret n0 T h cells slots) (hd : decode bytes pc = .ok (.bastore, 1)) (A : AR Z h a .boolean k f) (hj : j.toInt = u ∧ u < k) (ha : n0 ≤ a) (hz : x = 0 ∨ x = 1) (hn : n = pc + 1)
    (E : ∀ T h', Pos p l e R s m args below meth c Z own nm bytes maxL ret n0 T h' cells slots → Wr h h' a u (.int (x)) → Ends p e below s R n0 Q T (mkF m n Ls st)) : Ends p e below s R n0 Q T (mkF m pc Ls (.int x :: .int j :: .ref a :: st)) := by
  subst hn; obtain ⟨_, X, N⟩ := P.stand
  obtain ⟨cl, B, r1, r2, r3⟩ := A
  obtain ⟨q1, q5⟩ := inA hj r1
  obtain ⟨T', h', X', e', W, kk⟩ := Jvm.RoadKit.stZ X P.hx P.hZ P.heap B q1 (g := mkF m pc Ls (.int x :: .int j :: .ref a :: st)) rfl rfl (hb P.code hd)
  rw [q5] at W X'
  refine (E T' h' (P.to X' (Fr.snoc X' N ha) e') ?_).via kk
  rcases hz with rfl | rfl <;> exact W
theorem stC {j : Int32} {u : Nat} {x : Int32} (P : Pos p l e R s m args below meth c Z own nm bytes maxL ret n0 T h cells slots) (hd : decode bytes pc = .ok (.castore, 1)) (A : AR Z h a .char k f) (hj : j.toInt = u ∧ u < k) (ha : n0 ≤ a) (hn : n = pc + 1)
    (E : ∀ T h', Pos p l e R s m args below meth c Z own nm bytes maxL ret n0 T h' cells slots → Wr h h' a u (.int (nar .char x)) → Ends p e below s R n0 Q T (mkF m n Ls st)) : Ends p e below s R n0 Q T (mkF m pc Ls (.int x :: .int j :: .ref a :: st)) := by
  subst hn; obtain ⟨_, X, N⟩ := P.stand
  obtain ⟨cl, B, r1, r2, r3⟩ := A
  obtain ⟨q1, q5⟩ := inA hj r1
  obtain ⟨T', h', X', e', W, kk⟩ := Jvm.RoadKit.stC X P.hx P.hZ P.heap B q1 (g := mkF m pc Ls (.int x :: .int j :: .ref a :: st)) rfl rfl (hb P.code hd)
  rw [q5] at W X'
  exact (E T' h' (P.to X' (Fr.snoc X' N ha) e') W).via kk
/-- the library's form of an array -/
theorem AR.arv {vs : List Value} {dv : Value} {N : Int32} (A : AR Z h a ty k f) (hN : N.toInt = k) (hv : ∀ i, i < k → f i = vs.getD i dv) (hf : ∀ i, i < k → fits ty (vs.getD i dv) = true) : ∃ kC, Arv Z h a kC ty N vs dv := by
  obtain ⟨cl, B, r1, r2, r3⟩ := A
  have e0 : (0 : Int32).toInt = 0 := rfl
  refine ⟨cl.cls, cl, B, rfl, by rw [r1]; simp only [Int32.toNatClampNeg]; omega, by rw [Int32.lt_iff_toInt_lt, e0]; omega, fun i hi => ?_, fun i hi => hf i (r1 ▸ hi)⟩
  rw [r1] at hi; rw [r3 i hi, hv i hi]
/-! arrays of references -/
def ARC (Z : State) (h : Heap) (a : Addr) (C : String) (k : Nat) (f : Nat → Value) : Prop := ∃ cl : Cell, Arr Z h a cl (.object C) ∧ cl.slots.size = k ∧ k < 2 ^ 31 ∧ (∀ i, i < k → cl.slots[i]? = some (f i)) ∧ Ovr Z cl.cls C
theorem ARC.ar {C : String} (A : ARC Z h a C k f) : AR Z h a (.object C) k f := by obtain ⟨cl, B, r1, r2, r3, -⟩ := A; exact ⟨cl, B, r1, r2, r3⟩
theorem ARC.lt {C : String} (A : ARC Z h a C k f) : a < h.size := A.ar.lt
theorem ARC.ext {C : String} (A : ARC Z h a C k f) (E : Ext h h') : ARC Z h' a C k f := by obtain ⟨cl, B, r⟩ := A; exact ⟨cl, B.ext E, r⟩
theorem ARC.other {C : String} {sl : Nat} {v : Value} (A : ARC Z h b C k f) (W : Wr h h' a sl v) (q : b ≠ a) : ARC Z h' b C k f := by obtain ⟨cl, B, r⟩ := A; exact ⟨cl, B.other W q, r⟩
theorem ARC.set {C : String} {i : Nat} {v : Value} (A : ARC Z h a C k f) (W : Wr h h' a i v) : ARC Z h' a C k (ovr f i v) := by
  obtain ⟨cl, B, r1, r2, r3, r4⟩ := A
  refine ⟨_, B.same W, by rw [sz_set]; exact r1, r2, fun j hj => ?_, r4⟩
  by_cases u : j = i
  · subst u; simp [Cell.setSlot, r1, hj, ovr]
  · simp only [Cell.setSlot, ovr, if_neg u]
    rw [Array.getElem?_setIfInBounds_ne (Ne.symm u)]; exact r3 j hj
theorem newR {index : Nat} {C : String} {x : Int32} {cap : Nat} (P : Pos p l e R s m args below meth c Z own nm bytes maxL ret n0 T h cells slots) (hd : decode bytes pc = .ok (.anewarray index, 3)) (w1 : (Cond.classLink own index C).before a0 Z = true) (w2 : (Cond.arrayOver (.object C)).before a0 Z = true) (hx : x.toInt = k ∧ k ≤ cap) (hb' : cap * 8 ≤ 536870912) (hc : cells + 1 ≤ R.cells ∧ slots + cap ≤ R.slots) (hn : n = pc + 3)
    (E : ∀ T h' a, Pos p l e R s m args below meth c Z own nm bytes maxL ret n0 T h' (cells + 1) (slots + cap) → Ext h h' → a = h.size → n0 ≤ a → ARC Z h' a C k (fun _ => .null) → Ends p e below s R n0 Q T (mkF m n Ls (.ref a :: st))) : Ends p e below s R n0 Q T (mkF m pc Ls (.int x :: st)) := by
  subst hn; obtain ⟨_, X, N⟩ := P.stand
  have e0 : (0 : Int32).toInt = 0 := rfl
  have q1 : ¬ x < 0 := by rw [Int32.lt_iff_toInt_lt, e0]; omega
  have q2 : x.toNatClampNeg = k := by simp only [Int32.toNatClampNeg]; omega
  obtain ⟨T', h', cA, X', e', Ex, A, O, kk⟩ := Jvm.RoadKit.newR X P.hx P.hZ P.own' w1 w2 P.heap (g := mkF m pc Ls (.int x :: st)) rfl (hb P.code hd) rfl q1 (cap := cap) (by omega) hb' hc.1 hc.2
  refine (E T' h' _ (P.to X' N e') Ex rfl P.low ⟨_, A, (sz_new _ _ _).trans q2, by have := rng32 x; omega, fun i hi => ?_, O⟩).via kk
  rw [← q2] at hi
  simp [newA, hi, defaultValue]
theorem stR {C : String} {j : Int32} {u : Nat} {y : Addr} (P : Pos p l e R s m args below meth c Z own nm bytes maxL ret n0 T h cells slots) (hd : decode bytes pc = .ok (.aastore, 1)) (A : ARC Z h a C k f) (hj : j.toInt = u ∧ u < k) (I : Ins Z h y C true) (ha : n0 ≤ a) (hn : n = pc + 1)
    (E : ∀ T h', Pos p l e R s m args below meth c Z own nm bytes maxL ret n0 T h' cells slots → Wr h h' a u (.ref y) → Ends p e below s R n0 Q T (mkF m n Ls st)) : Ends p e below s R n0 Q T (mkF m pc Ls (.ref y :: .int j :: .ref a :: st)) := by
  subst hn; obtain ⟨_, X, N⟩ := P.stand
  obtain ⟨cl, B, r1, r2, r3, r4⟩ := A
  obtain ⟨q1, q5⟩ := inA hj r1
  obtain ⟨T', h', X', e', W, kk⟩ := Jvm.RoadKit.stR X P.hx P.hZ P.heap B q1 rfl (Sto.of B r4 I) (g := mkF m pc Ls (.ref y :: .int j :: .ref a :: st)) rfl rfl (hb P.code hd)
  rw [q5] at W X'
  exact (E T' h' (P.to X' (Fr.snoc X' N ha) e') W).via kk
/-- null into an array of references -/
theorem stN {j : Int32} {u : Nat} (P : Pos p l e R s m args below meth c Z own nm bytes maxL ret n0 T h cells slots) (hd : decode bytes pc = .ok (.aastore, 1)) (A : AR Z h a ty k f) (ht : ty.isReference = true) (hj : j.toInt = u ∧ u < k) (ha : n0 ≤ a) (hn : n = pc + 1)
    (E : ∀ T h', Pos p l e R s m args below meth c Z own nm bytes maxL ret n0 T h' cells slots → Wr h h' a u .null → Ends p e below s R n0 Q T (mkF m n Ls st)) : Ends p e below s R n0 Q T (mkF m pc Ls (.null :: .int j :: .ref a :: st)) := by
  subst hn; obtain ⟨_, X, N⟩ := P.stand
  obtain ⟨cl, B, r1, r2, r3⟩ := A
  obtain ⟨q1, q5⟩ := inA hj r1
  obtain ⟨T', h', X', e', W, kk⟩ := Jvm.RoadKit.stR X P.hx P.hZ P.heap B q1 ht (Or.inl rfl) (g := mkF m pc Ls (.null :: .int j :: .ref a :: st)) rfl rfl (hb P.code hd)
  rw [q5] at W X'
  exact (E T' h' (P.to X' (Fr.snoc X' N ha) e') W).via kk
theorem newRA {index : Nat} {C ad : String} {ty : FieldType} {x : Int32} {cap : Nat} (P : Pos p l e R s m args below meth c Z own nm bytes maxL ret n0 T h cells slots) (hd : decode bytes pc = .ok (.anewarray index, 3)) (hC : (FieldType.array ty).toString = C) (had : "[" ++ C = ad) (w1 : (Cond.classLink own index C).before a0 Z = true) (w2 : (Cond.arrayOver (.array ty)).before a0 Z = true) (hx : x.toInt = k ∧ k ≤ cap) (hb' : cap * 8 ≤ 536870912) (hc : cells + 1 ≤ R.cells ∧ slots + cap ≤ R.slots) (hn : n = pc + 3)
    (E : ∀ T h' a, Pos p l e R s m args below meth c Z own nm bytes maxL ret n0 T h' (cells + 1) (slots + cap) → Ext h h' → a = h.size → n0 ≤ a → AR Z h' a (.array ty) k (fun _ => .null) → Ends p e below s R n0 Q T (mkF m n Ls (.ref a :: st))) : Ends p e below s R n0 Q T (mkF m pc Ls (.int x :: st)) := by
  subst hn; obtain ⟨_, X, N⟩ := P.stand
  have e0 : (0 : Int32).toInt = 0 := rfl
  have q1 : ¬ x < 0 := by rw [Int32.lt_iff_toInt_lt, e0]; omega
  have q2 : x.toNatClampNeg = k := by simp only [Int32.toNatClampNeg]; omega
  obtain ⟨T', h', cA, X', e', Ex, A, -, -, kk⟩ := Jvm.RoadKit.newRA X P.hx P.hZ P.own' hC w1 w2 P.heap (g := mkF m pc Ls (.int x :: st)) rfl (hb P.code hd) rfl q1 (cap := cap) (by omega) hb' hc.1 hc.2 had
  refine (E T' h' _ (P.to X' N e') Ex rfl P.low ⟨_, A, (sz_new _ _ _).trans q2, by have := rng32 x; omega, fun i hi => ?_⟩).via kk
  rw [← q2] at hi
  simp [newA, hi, defaultValue]
theorem aaloadA {j : Int32} {u : Nat} {g : Nat → Addr} {C : String} (P : Pos p l e R s m args below meth c Z own nm bytes maxL ret n0 T h cells slots) (hd : decode bytes pc = .ok (.aaload, 1)) (A : AR Z h a (.object C) k (fun i => .ref (g i))) (hj : j.toInt = u ∧ u < k) (hn : n = pc + 1) (E : Ends p e below s R n0 Q T (mkF m n Ls (.ref (g u) :: st))) : Ends p e below s R n0 Q T (mkF m pc Ls (.int j :: .ref a :: st)) := ldA P hd A (Or.inr (Or.inr (Or.inr (Or.inr ⟨rfl, rfl⟩)))) hj rfl hn E
/-! from the sheet's words -/
theorem eq_v {t : Term} {k : Int32} {idx : List Nat} (h : (Cond.eq t (.int k)).value args s none s idx = some true) : t.eval args s none idx s = some (.int k) := by
  cases hv : t.eval args s none idx s with
  | none => simp [Cond.value, hv] at h
  | some v => cases v <;> simp_all [Cond.value, Term.eval]
theorem ord_v {t : Term} {C nn d : String} {k : Int32} (ht : t.eval args s none [] s = some (.ref a)) (h : (Cond.eq (.field t C nn d) (.int k)).value args s none s [] = some true) : Fld s s.heap a C nn d (.int k) :=
  Fld.start ((fld_at (o := none) (args := args) (first := s) (idx := []) ht).symm.trans (eq_v h))
theorem fref_v {t u : Term} {C nn d : String} (ht : t.eval args s none [] s = some (.ref a)) (hu : u.eval args s none [] s = some (.ref b)) (h : (Cond.eq (.field t C nn d) u).value args s none s [] = some true) : Fld s s.heap a C nn d (.ref b) := by
  refine Fld.start ((fld_at (o := none) (args := args) (first := s) (idx := []) ht).symm.trans ?_)
  cases hv : (Term.field t C nn d).eval args s none [] s with
  | none => simp [Cond.value, hv] at h
  | some v => cases v <;> simp_all [Cond.value]
theorem AR.start {t : Term} {z : Int32} (ev : t.eval args s none [] s = some (.ref a)) (hx : (Cond.arrayOf t ty).value args s none s [] = some true) (hl : (Cond.eq (.length t) (.int z)).value args s none s [] = some true) (hz : z.toInt = k)
    (he : ∀ i, i < k → (Term.elem t (.int (Int32.ofNat i))).eval args s none [] s = some (f i)) : AR s s.heap a ty k f := by
  obtain ⟨cl, A⟩ := Arr.start ev hx
  have hA : s.arrayAt? a = some cl := A.fin (Vm.Alike.refl _)
  have hl2 := eq_v hl
  have hl3 : cl.slots.size < 2 ^ 31 ∧ cl.slots.size.toInt32 = z := by simpa [Term.eval, ev, hA] using hl2
  have hsz : cl.slots.size = k := by
    have := len_toInt hl3.1; rw [hl3.2, hz] at this; omega
  refine ⟨cl, A, hsz, by omega, fun i hi => ?_⟩
  have e2 := (elem_in (he i hi) ev (Term.int_eval _) A.1).2
  have e3 : (Int32.ofNat i).toNatClampNeg = i := by
    simp only [Int32.toNatClampNeg, Int32.toInt_ofNat_small (show i < 2 ^ 31 by omega)]; omega
  rw [e3] at e2; exact e2
/-! calls -/
theorem Meth.back {y : MethodName} {cb : ByteArray} {mL : Nat} {rt : Option FieldType} {rm : Room} {as : Array Value} {Qc : Option Value → Heap → Prop} {W : Nat} (hM : Meth l Z y cb mL rt rm as h n0 Qc) (hZ : Z.Warmed39 s.vm) (wc : (Cond.code y cb mL rt).before a0 Z = true) (wz : (Cond.initialized y.cls).before a0 Z = true) (hf : rm.frames + 1 ≤ R.frames) (hl : W + (mL + 11) + rm.locals ≤ R.locals) :
    Back l R p e below s args y 3 W (fun A a => a = as ∧ A.U.heap = h ∧ A.cells + rm.cells ≤ R.cells ∧ A.slots + rm.slots ≤ R.slots) (fun A _ v B => ∃ L, (Qc v B.U.heap ∧ Fr n0 L) ∧ B.locs = A.locs ++ L ∧ B.cells = A.cells + rm.cells ∧ B.slots = A.slots + rm.slots) :=
  backOf (Q := fun v h' L => Qc v h' ∧ Fr n0 L) (hM []) hZ wc wz hf hl
theorem callS {index : Nat} {y : MethodName} {cb : ByteArray} {mL : Nat} {rt : Option FieldType} {rm : Room} {argsL rest stk : List Value} {ps : List FieldType} {r : Option FieldType} {Qc : Option Value → Heap → Prop} (P : Pos p l e R s m args below meth c Z own nm bytes maxL ret n0 T h cells slots) (hd : decode bytes pc = .ok (.invokestatic index, 3))
    (hM : Meth l Z y cb mL rt rm argsL.toArray h n0 Qc) (w1 : (Cond.methodLink own index y).before a0 Z = true) (w2 : (Cond.static y).before a0 Z = true) (w3 : (Cond.initialized y.cls).before a0 Z = true) (w4 : (Cond.code y cb mL rt).before a0 Z = true) (hy : y.cls ≠ "java/lang/invoke/MethodHandle" ∧ y.cls ≠ "java/lang/invoke/VarHandle")
    (hp : parseMethodDescriptor y.desc = some ⟨ps, r⟩) (hl : argsL.length = ps.length) (hst : stk = argsL.reverse ++ rest) (hsz : Ls.size = maxL) (hr : rm.frames + 1 ≤ R.frames ∧ (rest.map fun v => v.category).sum + (mL + 11) + rm.locals ≤ R.locals ∧ cells + rm.cells ≤ R.cells ∧ slots + rm.slots ≤ R.slots) (hn : n = pc + 3)
    (E : ∀ T h' v, Pos p l e R s m args below meth c Z own nm bytes maxL ret n0 T h' (cells + rm.cells) (slots + rm.slots) → Qc v h' → Ends p e below s R n0 Q T (mkF m n Ls (v.toList ++ rest))) : Ends p e below s R n0 Q T (mkF m pc Ls stk) := by
  subst hn hst; obtain ⟨locs, X, N⟩ := P.stand
  obtain ⟨v, _, ⟨T', L', k', n'⟩, -, X', ⟨Lc, hQ, e1, e2, e3⟩, kk⟩ := Jvm.LawKit.callS X P.hx (y := y) P.own' (mvT P.hZ w1) (mvT P.hZ w2) (mvT P.hZ w3) (mvT P.hZ w4) hy (hM.back (W := (rest.map fun v => v.category).sum) P.hZ w4 w3 hr.1 hr.2.1) (g := mkF m pc Ls (argsL.reverse ++ rest)) rfl (hsz.trans P.maxl.symm) (argsL := argsL) (rest := rest) (lenOf hp hl) rfl (by show 2 * 0 + _ ≤ _; omega) (hb P.code hd) (fun _ _ => ⟨rfl, P.heap, hr.2.2.1, hr.2.2.2⟩)
  dsimp only [Pt.U, Pt.locs, Pt.cells, Pt.slots] at X' e1 e2 e3 kk hQ
  subst e1 e2 e3
  exact (E T' T'.heap v (P.to X' (Fr.app N hQ.2) rfl) hQ.1).via kk
theorem callN {a : Addr} {index : Nat} {y : MethodName} {cb : ByteArray} {mL : Nat} {rm : Room} {argsL rest stk : List Value} {ps : List FieldType} {r : Option FieldType} {Qc : Option Value → Heap → Prop} (P : Pos p l e R s m args below meth c Z own nm bytes maxL ret n0 T h cells slots) (hd : decode bytes pc = .ok (.invokespecial index, 3))
    (hM : Meth l Z y cb mL none rm (.ref a :: argsL).toArray h n0 Qc) (hy1 : y.name = "<init>") (w1 : (Cond.methodLink own index y).before a0 Z = true) (w2 : (Cond.instanceMethod y).before a0 Z = true) (w3 : (Cond.initialized y.cls).before a0 Z = true) (w4 : (Cond.code y cb mL none).before a0 Z = true) (hy : y.cls ≠ "java/lang/invoke/MethodHandle" ∧ y.cls ≠ "java/lang/invoke/VarHandle")
    (hp : parseMethodDescriptor y.desc = some ⟨ps, r⟩) (hl : argsL.length = ps.length) (hst : stk = argsL.reverse ++ .ref a :: rest) (hsz : Ls.size = maxL) (hr : rm.frames + 1 ≤ R.frames ∧ (rest.map fun v => v.category).sum + (mL + 11) + rm.locals ≤ R.locals ∧ cells + rm.cells ≤ R.cells ∧ slots + rm.slots ≤ R.slots) (hn : n = pc + 3)
    (E : ∀ T h' v, Pos p l e R s m args below meth c Z own nm bytes maxL ret n0 T h' (cells + rm.cells) (slots + rm.slots) → Qc v h' → Ends p e below s R n0 Q T (mkF m n Ls (v.toList ++ rest))) : Ends p e below s R n0 Q T (mkF m pc Ls stk) := by
  subst hn hst; obtain ⟨locs, X, N⟩ := P.stand
  obtain ⟨v, _, ⟨T', L', k', n'⟩, -, X', ⟨Lc, hQ, e1, e2, e3⟩, kk⟩ := X.specialBack P.hx (y := y) hy1 P.own' (mvT P.hZ w1) (mvT P.hZ w2) (mvT P.hZ w4) hy (hM.back (W := (rest.map fun v => v.category).sum) P.hZ w4 w3 hr.1 hr.2.1) (g := mkF m pc Ls (argsL.reverse ++ .ref a :: rest)) rfl (hsz.trans P.maxl.symm) (Steps.refl _) (a := a) (argsL := argsL) (rest := rest) (lenOf hp hl) rfl (by show 2 * 0 + _ ≤ _; omega) (hb P.code hd) (fun _ _ => ⟨rfl, P.heap, hr.2.2.1, hr.2.2.2⟩)
  dsimp only [Pt.U, Pt.locs, Pt.cells, Pt.slots] at X' e1 e2 e3 kk hQ
  subst e1 e2 e3
  exact (E T' T'.heap v (P.to X' (Fr.app N hQ.2) rfl) hQ.1).via fun t k => kk.trans k
theorem callV {a : Addr} {C : String} {z : MethodName} {index : Nat} {y : MethodName} {cb : ByteArray} {mL : Nat} {rt : Option FieldType} {rm : Room} {argsL rest stk : List Value} {ps : List FieldType} {r : Option FieldType} {Qc : Option Value → Heap → Prop} (P : Pos p l e R s m args below meth c Z own nm bytes maxL ret n0 T h cells slots) (hd : decode bytes pc = .ok (.invokevirtual index, 3))
    (hM : Meth l Z z cb mL rt rm (.ref a :: argsL).toArray h n0 Qc) (X0 : Exa Z h a C) (w1 : (Cond.methodLink own index y).before a0 Z = true) (w2 : (Cond.declares y).before a0 Z = true) (nf : NotFace s y) (ws : (Cond.selects C y z).before a0 Z = true) (wi : (Cond.instanceMethod z).before a0 Z = true) (w3 : (Cond.initialized z.cls).before a0 Z = true) (w4 : (Cond.code z cb mL rt).before a0 Z = true) (hy : y.cls ≠ "java/lang/invoke/MethodHandle" ∧ y.cls ≠ "java/lang/invoke/VarHandle")
    (hp : parseMethodDescriptor y.desc = some ⟨ps, r⟩) (hl : argsL.length = ps.length) (hst : stk = argsL.reverse ++ .ref a :: rest) (hsz : Ls.size = maxL) (hr : rm.frames + 1 ≤ R.frames ∧ (rest.map fun v => v.category).sum + (mL + 11) + rm.locals ≤ R.locals ∧ cells + rm.cells ≤ R.cells ∧ slots + rm.slots ≤ R.slots) (hn : n = pc + 3)
    (E : ∀ T h' v, Pos p l e R s m args below meth c Z own nm bytes maxL ret n0 T h' (cells + rm.cells) (slots + rm.slots) → Qc v h' → Ends p e below s R n0 Q T (mkF m n Ls (v.toList ++ rest))) : Ends p e below s R n0 Q T (mkF m pc Ls stk) := by
  subst hn hst; obtain ⟨locs, X, N⟩ := P.stand
  obtain ⟨cq, kq, q1, q2, q3⟩ := isOf P.hZ P.heap X0
  obtain ⟨v, _, ⟨T', L', k', n'⟩, -, X', ⟨Lc, hQ, e1, e2, e3⟩, kk⟩ := X.virtualBack P.hx (y := y) (z := z) P.own' (mvT P.hZ w1) (mvT P.hZ w2) nf (mvT P.hZ ws) (mvT P.hZ wi) hy (hM.back (W := (rest.map fun v => v.category).sum) P.hZ w4 w3 hr.1 hr.2.1) q1 q3 (g := mkF m pc Ls (argsL.reverse ++ .ref a :: rest)) rfl (hsz.trans P.maxl.symm) (Steps.refl _) (argsL := argsL) (rest := rest) (lenOf hp hl) rfl (by show 2 * 0 + _ ≤ _; omega) (hb P.code hd) (fun _ _ => ⟨rfl, P.heap, hr.2.2.1, hr.2.2.2⟩)
  dsimp only [Pt.U, Pt.locs, Pt.cells, Pt.slots] at X' e1 e2 e3 kk hQ
  subst e1 e2 e3
  exact (E T' T'.heap v (P.to X' (Fr.app N hQ.2) rfl) hQ.1).via fun t k => kk.trans k
theorem callP {a : Addr} {C : String} {kk : Nat} {index : Nat} {y : MethodName} {cb : ByteArray} {mL : Nat} {rt : Option FieldType} {rm : Room} {argsL rest stk : List Value} {ps : List FieldType} {r : Option FieldType} {Qc : Option Value → Heap → Prop} (P : Pos p l e R s m args below meth c Z own nm bytes maxL ret n0 T h cells slots) (hd : decode bytes pc = .ok (.invokevirtual index, 3))
    (hM : Meth l Z y cb mL rt rm (.ref a :: argsL).toArray h n0 Qc) (X0 : Exa Z h a C) (w1 : (Cond.methodLink own index y).before a0 Z = true) (wi : (Cond.instanceMethod y).before a0 Z = true) (wn : (Cond.instantiable y.cls kk).before a0 Z = true) (wp : (Cond.privateMethod y).before a0 Z = true) (w3 : (Cond.initialized y.cls).before a0 Z = true) (w4 : (Cond.code y cb mL rt).before a0 Z = true) (hy : y.cls ≠ "java/lang/invoke/MethodHandle" ∧ y.cls ≠ "java/lang/invoke/VarHandle")
    (hp : parseMethodDescriptor y.desc = some ⟨ps, r⟩) (hl : argsL.length = ps.length) (hst : stk = argsL.reverse ++ .ref a :: rest) (hsz : Ls.size = maxL) (hr : rm.frames + 1 ≤ R.frames ∧ (rest.map fun v => v.category).sum + (mL + 11) + rm.locals ≤ R.locals ∧ cells + rm.cells ≤ R.cells ∧ slots + rm.slots ≤ R.slots) (hn : n = pc + 3)
    (E : ∀ T h' v, Pos p l e R s m args below meth c Z own nm bytes maxL ret n0 T h' (cells + rm.cells) (slots + rm.slots) → Qc v h' → Ends p e below s R n0 Q T (mkF m n Ls (v.toList ++ rest))) : Ends p e below s R n0 Q T (mkF m pc Ls stk) := by
  subst hn hst; obtain ⟨locs, X, N⟩ := P.stand
  obtain ⟨cq, q1, q2⟩ := X0.cell
  have wi' : (Cond.instanceMethod y).before args s = true := mvT P.hZ wi
  have pv : s.PrivateAt y := Cond.privateMethod_at (mvP P.hZ wp (args := #[]))
  obtain ⟨c0, k0, hc0, hk0, -, hfl, -⟩ := Cond.instantiable_spec (mvT P.hZ wn (args := args))
  have ws : (Cond.selects y.cls y y).before args s = true := selects_self_of_private hc0 hk0 (by simp_all) pv wi' hy
  obtain ⟨v, _, ⟨T', L', k', n'⟩, -, X', ⟨Lc, hQ, e1, e2, e3⟩, kk⟩ := X.privateBack P.hx (y := y) P.own' (mvT P.hZ w1) wi' ws pv (mvT P.hZ w4) hy (hM.back (W := (rest.map fun v => v.category).sum) P.hZ w4 w3 hr.1 hr.2.1) (g := mkF m pc Ls (argsL.reverse ++ .ref a :: rest)) rfl (hsz.trans P.maxl.symm) (Steps.refl _) (a := a) (by rw [P.heap]; exact q1) q2 (argsL := argsL) (rest := rest) (lenOf hp hl) rfl (by show 2 * 0 + _ ≤ _; omega) (hb P.code hd) (fun _ _ => ⟨rfl, P.heap, hr.2.2.1, hr.2.2.2⟩)
  dsimp only [Pt.U, Pt.locs, Pt.cells, Pt.slots] at X' e1 e2 e3 kk hQ
  subst e1 e2 e3
  exact (E T' T'.heap v (P.to X' (Fr.app N hQ.2) rfl) hQ.1).via fun t k => kk.trans k
/-- a constructor's call paid by a given Back -/
theorem callNB {a : Addr} {index : Nat} {y : MethodName} {cb : ByteArray} {mL : Nat} {argsL rest stk : List Value} {ps : List FieldType} {r : Option FieldType} {kc ks : Nat} {QQ : Option Value → Heap → List Loc → Prop} (P : Pos p l e R s m args below meth c Z own nm bytes maxL ret n0 T h cells slots) (hd : decode bytes pc = .ok (.invokespecial index, 3))
    (hB : Back l R p e below s args y 3 (rest.map fun v => v.category).sum (fun A a' => a' = (.ref a :: argsL).toArray ∧ A.U.heap = h ∧ A.cells + kc ≤ R.cells ∧ A.slots + ks ≤ R.slots) (fun A _ v B => ∃ L, QQ v B.U.heap L ∧ B.locs = A.locs ++ L ∧ B.cells = A.cells + kc ∧ B.slots = A.slots + ks))
    (hQF : ∀ v h' L, QQ v h' L → Fr n0 L) (hy1 : y.name = "<init>") (w1 : (Cond.methodLink own index y).before a0 Z = true) (w2 : (Cond.instanceMethod y).before a0 Z = true) (w4 : (Cond.code y cb mL none).before a0 Z = true) (hy : y.cls ≠ "java/lang/invoke/MethodHandle" ∧ y.cls ≠ "java/lang/invoke/VarHandle")
    (hp : parseMethodDescriptor y.desc = some ⟨ps, r⟩) (hl : argsL.length = ps.length) (hst : stk = argsL.reverse ++ .ref a :: rest) (hsz : Ls.size = maxL) (hr : cells + kc ≤ R.cells ∧ slots + ks ≤ R.slots) (hn : n = pc + 3)
    (E : ∀ T h' v L, Pos p l e R s m args below meth c Z own nm bytes maxL ret n0 T h' (cells + kc) (slots + ks) → QQ v h' L → Ends p e below s R n0 Q T (mkF m n Ls (v.toList ++ rest))) : Ends p e below s R n0 Q T (mkF m pc Ls stk) := by
  subst hn hst; obtain ⟨locs, X, N⟩ := P.stand
  obtain ⟨v, _, ⟨T', L', k', n'⟩, -, X', ⟨Lc, hQ, e1, e2, e3⟩, kk⟩ := X.specialBack P.hx (y := y) hy1 P.own' (mvT P.hZ w1) (mvT P.hZ w2) (mvT P.hZ w4) hy hB (g := mkF m pc Ls (argsL.reverse ++ .ref a :: rest)) rfl (hsz.trans P.maxl.symm) (Steps.refl _) (a := a) (argsL := argsL) (rest := rest) (lenOf hp hl) rfl (by show 2 * 0 + _ ≤ _; omega) (hb P.code hd) (fun _ _ => ⟨rfl, P.heap, hr.1, hr.2⟩)
  dsimp only [Pt.U, Pt.locs, Pt.cells, Pt.slots] at X' e1 e2 e3 kk hQ
  subst e1 e2 e3
  exact (E T' T'.heap v Lc (P.to X' (Fr.app N (hQF _ _ _ hQ)) rfl) hQ).via fun t k => kk.trans k
/-- returns v and leaves the heap as it was -/
def Ret (v : Value) (h : Heap) : Option Value → Heap → Prop := fun w h' => w = some v ∧ h' = h
theorem Ret.ofI {x y : Int32} (q : x = y) : Ret (.int y) h (some (.int x)) h := ⟨by rw [q], rfl⟩
theorem Ret.ofL {x y : Int64} (q : x = y) : Ret (.long y) h (some (.long x)) h := ⟨by rw [q], rfl⟩
theorem Ret.ofA {x y : Value} (q : x = y) : Ret y h (some x) h := ⟨by rw [q], rfl⟩
/-- the continuation behind a call that only returns -/
theorem Ret.on {v : Value} {cells' slots' : Nat} {rest : List Value} (E : ∀ T, Pos p l e R s m args below meth c Z own nm bytes maxL ret n0 T h cells' slots' → Ends p e below s R n0 Q T (mkF m n Ls (v :: rest))) :
    ∀ T h' w, Pos p l e R s m args below meth c Z own nm bytes maxL ret n0 T h' cells' slots' → Ret v h w h' → Ends p e below s R n0 Q T (mkF m n Ls (w.toList ++ rest)) := by
  rintro T h' w P ⟨rfl, rfl⟩; exact E T P

/-- returns nothing and leaves the heap as it was -/
def RetV (h : Heap) : Option Value → Heap → Prop := fun w h' => w = none ∧ h' = h
theorem RetV.mk : RetV h none h := ⟨rfl, rfl⟩
theorem RetV.on {cells' slots' : Nat} {rest : List Value} (E : ∀ T, Pos p l e R s m args below meth c Z own nm bytes maxL ret n0 T h cells' slots' → Ends p e below s R n0 Q T (mkF m n Ls rest)) :
    ∀ T h' w, Pos p l e R s m args below meth c Z own nm bytes maxL ret n0 T h' cells' slots' → RetV h w h' → Ends p e below s R n0 Q T (mkF m n Ls (w.toList ++ rest)) := by
  rintro T h' w P ⟨rfl, rfl⟩; exact E T P
/-- returns an int (a long) of which F holds, and leaves the heap as it was -/
def RetI (F : Int32 → Prop) (h : Heap) : Option Value → Heap → Prop := fun w h' => ∃ z, w = some (.int z) ∧ F z ∧ h' = h
def RetJ (F : Int64 → Prop) (h : Heap) : Option Value → Heap → Prop := fun w h' => ∃ z, w = some (.long z) ∧ F z ∧ h' = h
theorem RetI.mk {F : Int32 → Prop} {x : Int32} (q : F x) : RetI F h (some (.int x)) h := ⟨x, rfl, q, rfl⟩
theorem RetJ.mk {F : Int64 → Prop} {x : Int64} (q : F x) : RetJ F h (some (.long x)) h := ⟨x, rfl, q, rfl⟩
theorem RetI.on {F : Int32 → Prop} {cells' slots' : Nat} {rest : List Value} (E : ∀ T z, Pos p l e R s m args below meth c Z own nm bytes maxL ret n0 T h cells' slots' → F z → Ends p e below s R n0 Q T (mkF m n Ls (.int z :: rest))) :
    ∀ T h' w, Pos p l e R s m args below meth c Z own nm bytes maxL ret n0 T h' cells' slots' → RetI F h w h' → Ends p e below s R n0 Q T (mkF m n Ls (w.toList ++ rest)) := by
  rintro T h' w P ⟨z, rfl, q, rfl⟩; exact E T z P q
theorem RetJ.on {F : Int64 → Prop} {cells' slots' : Nat} {rest : List Value} (E : ∀ T z, Pos p l e R s m args below meth c Z own nm bytes maxL ret n0 T h cells' slots' → F z → Ends p e below s R n0 Q T (mkF m n Ls (.long z :: rest))) :
    ∀ T h' w, Pos p l e R s m args below meth c Z own nm bytes maxL ret n0 T h' cells' slots' → RetJ F h w h' → Ends p e below s R n0 Q T (mkF m n Ls (w.toList ++ rest)) := by
  rintro T h' w P ⟨z, rfl, q, rfl⟩; exact E T z P q
end Core
/-! numbers: what an operation is worth where nothing wraps -/
section Num
theorem n_iadd {x y z : Int32} {X Y : Int} (hz : z = x + y) (hx : x.toInt = X) (hy : y.toInt = Y) (b : -2147483648 ≤ X + Y ∧ X + Y ≤ 2147483647) : z.toInt = X + Y := by
  subst hz hx hy; have := c_iadd x y; have := rng32 (x + y); omega
theorem n_isub {x y z : Int32} {X Y : Int} (hz : z = x - y) (hx : x.toInt = X) (hy : y.toInt = Y) (b : -2147483648 ≤ X - Y ∧ X - Y ≤ 2147483647) : z.toInt = X - Y := by
  subst hz hx hy; have := c_isub x y; have := rng32 (x - y); omega
theorem n_imul {x y z : Int32} {X Y : Int} (hz : z = x * y) (hx : x.toInt = X) (hy : y.toInt = Y) (b : -2147483648 ≤ X * Y ∧ X * Y ≤ 2147483647) : z.toInt = X * Y := by
  subst hz hx hy; have h1 := c_imul x y; have := rng32 (x * y); generalize x.toInt * y.toInt = w at *; omega
theorem n_ladd {x y z : Int64} {X Y : Int} (hz : z = x + y) (hx : x.toInt = X) (hy : y.toInt = Y) (b : -9223372036854775808 ≤ X + Y ∧ X + Y ≤ 9223372036854775807) : z.toInt = X + Y := by
  subst hz hx hy; have := c_ladd x y; have := rng64 (x + y); omega
theorem n_lsub {x y z : Int64} {X Y : Int} (hz : z = x - y) (hx : x.toInt = X) (hy : y.toInt = Y) (b : -9223372036854775808 ≤ X - Y ∧ X - Y ≤ 9223372036854775807) : z.toInt = X - Y := by
  subst hz hx hy; have := c_lsub x y; have := rng64 (x - y); omega
theorem n_lmul {x y z : Int64} {X Y : Int} (hz : z = x * y) (hx : x.toInt = X) (hy : y.toInt = Y) (b : -9223372036854775808 ≤ X * Y ∧ X * Y ≤ 9223372036854775807) : z.toInt = X * Y := by
  subst hz hx hy; have h1 := c_lmul x y; have := rng64 (x * y); generalize x.toInt * y.toInt = w at *; omega
theorem n_i2l {x : Int32} {z : Int64} {X : Int} (hz : z = x.toInt64) (hx : x.toInt = X) : z.toInt = X := by subst hz hx; exact c_i2l x
theorem n_irem {x y z : Int32} {X Y : Int} (hz : z = x % y) (hx : x.toInt = X) (hy : y.toInt = Y) (b : 0 ≤ X) : z.toInt = X % Y := by
  subst hz hx; exact (c_irem x y Y hy).1 b
theorem n_idiv {x y z : Int32} {X Y : Int} (hz : z = x / y) (hx : x.toInt = X) (hy : y.toInt = Y) (b : 0 ≤ X ∧ 0 < Y) : z.toInt = X / Y := by
  subst hz hx; exact (c_idiv x y Y hy (fun q => by subst q; have : (-1 : Int32).toInt = -1 := rfl; omega)).1 b.1
theorem n_ldiv {x y z : Int64} {X Y : Int} (hz : z = x / y) (hx : x.toInt = X) (hy : y.toInt = Y) (b : 0 ≤ X ∧ 0 < Y) : z.toInt = X / Y := by
  subst hz hx; exact (c_ldiv x y Y hy (fun q => by subst q; have : (-1 : Int64).toInt = -1 := rfl; omega)).1 b.1
theorem n_mask {x m z : Int32} {X : Int} (k : Nat) (hz : z = x &&& m) (hx : x.toInt = X) (hk : k ≤ 31 ∧ m.toBitVec.toNat = 2 ^ k - 1) : z.toInt = X % (2 ^ k : Nat) := by subst hz hx; exact c_mask x m k hk.1 hk.2
theorem n_maskL {x m z : Int64} {X : Int} (k : Nat) (hz : z = x &&& m) (hx : x.toInt = X) (hk : k ≤ 63 ∧ m.toBitVec.toNat = 2 ^ k - 1) : z.toInt = X % (2 ^ k : Nat) := by subst hz hx; exact c_maskL x m k hk.1 hk.2
theorem n_iushr {x q z : Int32} {X : Int} (k : Nat) (hz : z = (x.toUInt32 >>> (q &&& 31).toUInt32).toInt32) (hx : x.toInt = X) (hk : q.toBitVec.toNat % 32 = k ∧ 0 < k) : z.toInt = (X % 4294967296) / (2 ^ k : Nat) := by subst hz hx; exact c_iushr x q k hk.1 hk.2
theorem n_ishr {x q z : Int32} {X : Int} (k : Nat) (hz : z = x >>> (q &&& 31)) (hx : x.toInt = X) (hk : q.toBitVec.toNat % 32 = k) : z.toInt = X / (2 ^ k : Nat) := by subst hz hx; exact c_ishr x q k hk
theorem n_iremV {x y z : Int32} (hz : z = x % y) (hx : 0 ≤ x.toInt) (hy : 0 < y.toInt) : 0 ≤ z.toInt ∧ z.toInt < y.toInt := by
  subst hz; have := (c_iremV x y).1 hx hy; omega
theorem nzI {y : Int32} (h : ¬ y.toInt = 0) : y ≠ 0 := fun q => h (by rw [q]; rfl)
theorem nzL {y : Int64} (h : ¬ y.toInt = 0) : y ≠ 0 := fun q => h (by rw [q]; rfl)
theorem b8 (x : Int32) : x.toInt8.toInt32.toInt8.toInt32 = x.toInt8.toInt32 := by simp
theorem eqI {x y : Int32} (h : x.toInt = y.toInt) : x = y := Int32.toInt_inj.mp h
theorem eqL {x y : Int64} (h : x.toInt = y.toInt) : x = y := Int64.toInt_inj.mp h
theorem ofI {x : Int32} {X : Int} (h : x.toInt = X) : x = Int32.ofInt X := by rw [← h]; exact (Int32.ofInt_toInt x).symm
theorem ofL {x : Int64} {X : Int} (h : x.toInt = X) : x = Int64.ofInt X := by rw [← h]; exact (Int64.ofInt_toInt x).symm
end Num
end Jvm.Own
namespace Jvm.Pilot.@@N@@
open Jvm Jvm.ClassFile Sem Op Lib Jvm.Free Jvm.Stand Jvm.LawKit Jvm.RoadKit Bundle Jvm.Pilot.@@N@@.Jvm.D
open Jvm.Own
/-- the walk stops at the place i -/
def own_stop (gs : Nat → Int32) (gh : Nat → Int64) (w : Int) (i : Nat) : Prop := (gs i).toInt = 0 ∨ (gh ((gs i).toInt - 1).toNat).toInt = w
def own_S (t a b c ad h1 h2 h3 w : Int) : Prop := (t = a → h1 = w) ∧ (t ≠ a → t = b → h2 = w) ∧ (t ≠ a → t ≠ b → ad = 1 → t = c → h3 = w)
/-- the first place from x on where the walk stops, k places on -/
def own_first (p : Nat → Prop) (x k : Nat) : Prop := p ((x + k) % 16) ∧ ∀ j, j < k → ¬ p ((x + j) % 16)
theorem own_first_uniq {p : Nat → Prop} {x k k' : Nat} (h : own_first p x k) (h' : own_first p x k') : k = k' := by
  rcases Nat.lt_trichotomy k k' with q | q | q
  · exact absurd h.1 (h'.2 k q)
  · exact q
  · exact absurd h'.1 (h.2 k' q)
theorem d1_0 : decode prog_68_method_1_code 0 = .ok (.aload_n 0, 1) := by decide +kernel
theorem d1_1 : decode prog_68_method_1_code 1 = .ok (.invokespecial 1, 3) := by decide +kernel
theorem d1_4 : decode prog_68_method_1_code 4 = .ok (.aload_n 0, 1) := by decide +kernel
theorem d1_5 : decode prog_68_method_1_code 5 = .ok (.bipush 16, 2) := by decide +kernel
theorem d1_7 : decode prog_68_method_1_code 7 = .ok (.newarray .int, 2) := by decide +kernel
theorem d1_9 : decode prog_68_method_1_code 9 = .ok (.putfield 7, 3) := by decide +kernel
theorem d1_12 : decode prog_68_method_1_code 12 = .ok (.aload_n 0, 1) := by decide +kernel
theorem d1_13 : decode prog_68_method_1_code 13 = .ok (.bipush 8, 2) := by decide +kernel
theorem d1_15 : decode prog_68_method_1_code 15 = .ok (.newarray .long, 2) := by decide +kernel
theorem d1_17 : decode prog_68_method_1_code 17 = .ok (.putfield 13, 3) := by decide +kernel
theorem d1_20 : decode prog_68_method_1_code 20 = .ok (.return_, 1) := by decide +kernel
theorem ef_1 (m : MethodId) (a : Addr) : entryFrame m #[(.ref a)] 1 = mkF m 0 #[.val (.ref a)] [] := by first | (simp [entryFrame, mkF, argsToLocals, Value.category]; done) | rfl
theorem pn_0 : plainName "com/example/vestbook/vestbook/PlaceTable" = true := by first | (simp [plainName, overriddenIn]; done) | decide +kernel
abbrev rm_c_init : Room := { frames := 1, cells := 2, slots := 24, locals := 12 }
set_option maxRecDepth 65536 in
set_option maxHeartbeats 40000000 in
theorem c_init (l : Launch) (Z : State) (a0 : Array Value) (hw : ∀ d ∈ tables_1, d.before a0 Z = true) (a : Addr)  (h0 : Heap) (n0 : Nat) (low : n0 ≤ h0.size) (E_a : Exa Z h0 a "com/example/vestbook/vestbook/PlaceTable") (F_s : Fld Z h0 a "com/example/vestbook/vestbook/PlaceTable" "slots" "[I" .null) (F_h : Fld Z h0 a "com/example/vestbook/vestbook/PlaceTable" "hashes" "[J" .null) (F_z : Fld Z h0 a "com/example/vestbook/vestbook/PlaceTable" "size" "I" (.int (0 : Int32))) (l1 : n0 ≤ a) :
    Meth l Z (⟨"com/example/vestbook/vestbook/PlaceTable", "<init>", "()V"⟩ : MethodName) prog_68_method_1_code 1 none rm_c_init #[(.ref a)] h0 n0 (fun v h => v = none ∧ ∃ sa ha, (Exa Z h a "com/example/vestbook/vestbook/PlaceTable" ∧ Fld Z h a "com/example/vestbook/vestbook/PlaceTable" "slots" "[I" (.ref sa) ∧ Fld Z h a "com/example/vestbook/vestbook/PlaceTable" "hashes" "[J" (.ref ha) ∧ Fld Z h a "com/example/vestbook/vestbook/PlaceTable" "size" "I" (.int (0 : Int32)) ∧ ARI Z h sa .int 16 (fun _ => 0) ∧ ARJ Z h ha 8 (fun _ => 0)) ∧ a ≠ sa ∧ a ≠ ha ∧ sa ≠ ha ∧ n0 ≤ sa ∧ n0 ≤ ha) := by
  refine Meth.of (plainFor_of_name pn_0) low ?_
  intro p e s m args below meth c T P
  refine Ends.cast (ef_1 m a) ?_
  refine aloadN P d1_0 rfl rfl (n := 1) rfl ?_
  refine initO P d1_1 (hw _ (List.mem_of_getElem? (i := 6) rfl)) (hw _ (List.mem_of_getElem? (i := 7) rfl)) (hw _ (List.mem_of_getElem? (i := 8) rfl)) rfl (by decide) (Nat.le_of_ble_eq_true rfl) (n := 4) rfl ?_
  intro T P
  refine aloadN P d1_4 rfl rfl (n := 5) rfl ?_
  refine bipush P d1_5 (x := (16 : Int32)) rfl (n := 7) rfl ?_
  refine newP P d1_7 (hw _ (List.mem_of_getElem? (i := 9) rfl)) (k := 16) (cap := 16) ⟨rfl, by decide⟩ (by decide) (by decide) (n := 9) rfl ?_
  intro T h2 b1 P X3 g4 lo_b1 A_b1
  have ne_a_b1 : a ≠ b1 := Nat.ne_of_lt (g4 ▸ E_a.lt)
  replace E_a := Exa.ext X3 E_a
  replace F_s := Fld.ext X3 F_s
  replace F_h := Fld.ext X3 F_h
  replace F_z := Fld.ext X3 F_z
  replace A_b1 : ARI Z h2 b1 .int 16 (fun _ => 0) := A_b1
  refine putF P d1_9 (hw _ (List.mem_of_getElem? (i := 10) rfl)) F_s E_a (Or.inl (hw _ (List.mem_of_getElem? (i := 11) rfl))) (hw _ (List.mem_of_getElem? (i := 1) rfl)) (ty := (.array .int)) (by decide) rfl rfl l1 (n := 12) rfl ?_
  intro T h5 P W6
  replace E_a := Exa.wr W6 E_a
  replace F_h := Fld.other W6 F_h (Or.inr (slot_ne (Or.inl (hw _ (List.mem_of_getElem? (i := 14) rfl))) (Or.inl (hw _ (List.mem_of_getElem? (i := 11) rfl))) (by decide) (t := (.array .long)) (t' := (.array .int)) (by decide) (by decide)))
  replace F_z := Fld.other W6 F_z (Or.inr (slot_ne (Or.inl (hw _ (List.mem_of_getElem? (i := 21) rfl))) (Or.inl (hw _ (List.mem_of_getElem? (i := 11) rfl))) (by decide) (t := .int) (t' := (.array .int)) (by decide) (by decide)))
  replace A_b1 := A_b1.other W6 (Ne.symm ne_a_b1)
  replace F_s := Fld.same W6 F_s
  refine aloadN P d1_12 rfl rfl (n := 13) rfl ?_
  refine bipush P d1_13 (x := (8 : Int32)) rfl (n := 15) rfl ?_
  refine newP P d1_15 (hw _ (List.mem_of_getElem? (i := 12) rfl)) (k := 8) (cap := 8) ⟨rfl, by decide⟩ (by decide) (by decide) (n := 17) rfl ?_
  intro T h8 b7 P X9 g10 lo_b7 A_b7
  have ne_a_b7 : a ≠ b7 := Nat.ne_of_lt (g10 ▸ E_a.lt)
  have ne_b1_b7 : b1 ≠ b7 := Nat.ne_of_lt (g10 ▸ A_b1.lt)
  replace E_a := Exa.ext X9 E_a
  replace F_s := Fld.ext X9 F_s
  replace F_h := Fld.ext X9 F_h
  replace F_z := Fld.ext X9 F_z
  replace A_b1 := A_b1.ext X9
  replace A_b7 : ARJ Z h8 b7 8 (fun _ => 0) := A_b7
  refine putF P d1_17 (hw _ (List.mem_of_getElem? (i := 13) rfl)) F_h E_a (Or.inl (hw _ (List.mem_of_getElem? (i := 14) rfl))) (hw _ (List.mem_of_getElem? (i := 1) rfl)) (ty := (.array .long)) (by decide) rfl rfl l1 (n := 20) rfl ?_
  intro T h11 P W12
  replace E_a := Exa.wr W12 E_a
  replace F_s := Fld.other W12 F_s (Or.inr (slot_ne (Or.inl (hw _ (List.mem_of_getElem? (i := 11) rfl))) (Or.inl (hw _ (List.mem_of_getElem? (i := 14) rfl))) (by decide) (t := (.array .int)) (t' := (.array .long)) (by decide) (by decide)))
  replace F_z := Fld.other W12 F_z (Or.inr (slot_ne (Or.inl (hw _ (List.mem_of_getElem? (i := 21) rfl))) (Or.inl (hw _ (List.mem_of_getElem? (i := 14) rfl))) (by decide) (t := .int) (t' := (.array .long)) (by decide) (by decide)))
  replace A_b1 := A_b1.other W12 (Ne.symm ne_a_b1)
  replace A_b7 := A_b7.other W12 (Ne.symm ne_a_b7)
  replace F_h := Fld.same W12 F_h
  refine retV P d1_20 (by decide) (by decide) ?_
  exact ⟨rfl, b1, b7, ⟨E_a, F_s, F_h, F_z, A_b1, A_b7⟩, ne_a_b1, ne_a_b7, ne_b1_b7, lo_b1, lo_b7⟩
theorem d3_0 : decode prog_68_method_5_code 0 = .ok (.aload_n 0, 1) := by decide +kernel
theorem d3_1 : decode prog_68_method_5_code 1 = .ok (.getfield 25, 3) := by decide +kernel
theorem d3_4 : decode prog_68_method_5_code 4 = .ok (.aload_n 0, 1) := by decide +kernel
theorem d3_5 : decode prog_68_method_5_code 5 = .ok (.getfield 13, 3) := by decide +kernel
theorem d3_8 : decode prog_68_method_5_code 8 = .ok (.arraylength, 1) := by decide +kernel
theorem d3_9 : decode prog_68_method_5_code 9 = .ok (.if_icmp .ne 20, 3) := by decide +kernel
theorem d3_12 : decode prog_68_method_5_code 12 = .ok (.aload_n 0, 1) := by decide +kernel
theorem d3_13 : decode prog_68_method_5_code 13 = .ok (.aload_n 0, 1) := by decide +kernel
theorem d3_14 : decode prog_68_method_5_code 14 = .ok (.getfield 13, 3) := by decide +kernel
theorem d3_17 : decode prog_68_method_5_code 17 = .ok (.iconst 2, 1) := by decide +kernel
theorem d3_18 : decode prog_68_method_5_code 18 = .ok (.aload_n 0, 1) := by decide +kernel
theorem d3_19 : decode prog_68_method_5_code 19 = .ok (.getfield 25, 3) := by decide +kernel
theorem d3_22 : decode prog_68_method_5_code 22 = .ok (.imul, 1) := by decide +kernel
theorem d3_23 : decode prog_68_method_5_code 23 = .ok (.invokestatic 29, 3) := by decide +kernel
theorem d3_26 : decode prog_68_method_5_code 26 = .ok (.putfield 13, 3) := by decide +kernel
theorem d3_29 : decode prog_68_method_5_code 29 = .ok (.aload_n 0, 1) := by decide +kernel
theorem d3_30 : decode prog_68_method_5_code 30 = .ok (.getfield 25, 3) := by decide +kernel
theorem d3_33 : decode prog_68_method_5_code 33 = .ok (.istore 4, 2) := by decide +kernel
theorem d3_35 : decode prog_68_method_5_code 35 = .ok (.aload_n 0, 1) := by decide +kernel
theorem d3_36 : decode prog_68_method_5_code 36 = .ok (.getfield 13, 3) := by decide +kernel
theorem d3_39 : decode prog_68_method_5_code 39 = .ok (.iload 4, 2) := by decide +kernel
theorem d3_41 : decode prog_68_method_5_code 41 = .ok (.lload_n 2, 1) := by decide +kernel
theorem d3_42 : decode prog_68_method_5_code 42 = .ok (.lastore, 1) := by decide +kernel
theorem d3_43 : decode prog_68_method_5_code 43 = .ok (.aload_n 0, 1) := by decide +kernel
theorem d3_44 : decode prog_68_method_5_code 44 = .ok (.getfield 7, 3) := by decide +kernel
theorem d3_47 : decode prog_68_method_5_code 47 = .ok (.iload_n 1, 1) := by decide +kernel
theorem d3_48 : decode prog_68_method_5_code 48 = .ok (.iload 4, 2) := by decide +kernel
theorem d3_50 : decode prog_68_method_5_code 50 = .ok (.iconst 1, 1) := by decide +kernel
theorem d3_51 : decode prog_68_method_5_code 51 = .ok (.iadd, 1) := by decide +kernel
theorem d3_52 : decode prog_68_method_5_code 52 = .ok (.iastore, 1) := by decide +kernel
theorem d3_53 : decode prog_68_method_5_code 53 = .ok (.aload_n 0, 1) := by decide +kernel
theorem d3_54 : decode prog_68_method_5_code 54 = .ok (.dup, 1) := by decide +kernel
theorem d3_55 : decode prog_68_method_5_code 55 = .ok (.getfield 25, 3) := by decide +kernel
theorem d3_58 : decode prog_68_method_5_code 58 = .ok (.iconst 1, 1) := by decide +kernel
theorem d3_59 : decode prog_68_method_5_code 59 = .ok (.iadd, 1) := by decide +kernel
theorem d3_60 : decode prog_68_method_5_code 60 = .ok (.putfield 25, 3) := by decide +kernel
theorem d3_63 : decode prog_68_method_5_code 63 = .ok (.iconst 2, 1) := by decide +kernel
theorem d3_64 : decode prog_68_method_5_code 64 = .ok (.aload_n 0, 1) := by decide +kernel
theorem d3_65 : decode prog_68_method_5_code 65 = .ok (.getfield 25, 3) := by decide +kernel
theorem d3_68 : decode prog_68_method_5_code 68 = .ok (.imul, 1) := by decide +kernel
theorem d3_69 : decode prog_68_method_5_code 69 = .ok (.aload_n 0, 1) := by decide +kernel
theorem d3_70 : decode prog_68_method_5_code 70 = .ok (.getfield 7, 3) := by decide +kernel
theorem d3_73 : decode prog_68_method_5_code 73 = .ok (.arraylength, 1) := by decide +kernel
theorem d3_74 : decode prog_68_method_5_code 74 = .ok (.if_icmp .le 7, 3) := by decide +kernel
theorem d3_77 : decode prog_68_method_5_code 77 = .ok (.aload_n 0, 1) := by decide +kernel
theorem d3_78 : decode prog_68_method_5_code 78 = .ok (.invokevirtual 35, 3) := by decide +kernel
theorem d3_81 : decode prog_68_method_5_code 81 = .ok (.iload 4, 2) := by decide +kernel
theorem d3_83 : decode prog_68_method_5_code 83 = .ok (.ireturn, 1) := by decide +kernel
theorem ef_3 (m : MethodId) (a : Addr) (u : Int32) (w : Int64) : entryFrame m #[(.ref a), (.int u), (.long w)] 5 = mkF m 0 #[.val (.ref a), .val (.int u), .val (.long w), .second, .unset] [] := by first | (simp [entryFrame, mkF, argsToLocals, Value.category]; done) | rfl
abbrev rm_c_add : Room := { frames := 0, cells := 0, slots := 0, locals := 0 }
set_option maxRecDepth 65536 in
set_option maxHeartbeats 40000000 in
theorem c_add (l : Launch) (Z : State) (a0 : Array Value) (hw : ∀ d ∈ tables_1, d.before a0 Z = true) (a : Addr) (u : Int32) (w : Int64) (sa ha : Addr) (z : Int32) (gs : Nat → Int32) (gh : Nat → Int64) (k : Nat) (h0 : Heap) (n0 : Nat) (low : n0 ≤ h0.size) (E_a : Exa Z h0 a "com/example/vestbook/vestbook/PlaceTable") (F_s : Fld Z h0 a "com/example/vestbook/vestbook/PlaceTable" "slots" "[I" (.ref sa)) (F_h : Fld Z h0 a "com/example/vestbook/vestbook/PlaceTable" "hashes" "[J" (.ref ha)) (F_z : Fld Z h0 a "com/example/vestbook/vestbook/PlaceTable" "size" "I" (.int z)) (A_s : ARI Z h0 sa .int 16 gs) (A_h : ARJ Z h0 ha 8 gh) (n1 : a ≠ sa) (n2 : a ≠ ha) (n3 : sa ≠ ha) (l1 : n0 ≤ a) (l2 : n0 ≤ sa) (l3 : n0 ≤ ha) (hz : z.toInt = k ∧ k ≤ 2) (hu : 0 ≤ u.toInt ∧ u.toInt < 16) :
    Meth l Z (⟨"com/example/vestbook/vestbook/PlaceTable", "add", "(IJ)I"⟩ : MethodName) prog_68_method_5_code 5 (some .int) rm_c_add #[(.ref a), (.int u), (.long w)] h0 n0 (fun v h => ∃ (r y y2 : Int32), v = some (.int r) ∧ y.toInt = ((k + 1 : Nat) : Int) ∧ y2.toInt = ((k + 1 : Nat) : Int) ∧ Exa Z h a "com/example/vestbook/vestbook/PlaceTable" ∧ Fld Z h a "com/example/vestbook/vestbook/PlaceTable" "slots" "[I" (.ref sa) ∧ Fld Z h a "com/example/vestbook/vestbook/PlaceTable" "hashes" "[J" (.ref ha) ∧ Fld Z h a "com/example/vestbook/vestbook/PlaceTable" "size" "I" (.int y2) ∧ ARI Z h sa .int 16 (ovr gs u.toInt.toNat y) ∧ ARJ Z h ha 8 (ovr gh k w)) := by
  refine Meth.of (plainFor_of_name pn_0) low ?_
  intro p e s m args below meth c T P
  refine Ends.cast (ef_3 m a u w) ?_
  refine aloadN P d3_0 rfl rfl (n := 1) rfl ?_
  refine getF P d3_1 (hw _ (List.mem_of_getElem? (i := 20) rfl)) F_z (n := 4) rfl ?_
  intro T P
  refine aloadN P d3_4 rfl rfl (n := 5) rfl ?_
  refine getF P d3_5 (hw _ (List.mem_of_getElem? (i := 13) rfl)) F_h (n := 8) rfl ?_
  intro T P
  refine alen P d3_8 A_h (x := (8 : Int32)) rfl (n := 9) rfl ?_
  refine icmp_ne P d3_9 (n' := 29) (n := 12) (by decide) rfl (fun hc9 => ?_) (fun hc9 => ?_)
  · -- pc 9 taken
    replace hc9 : ¬ z.toInt = (8 : Int) := hc9
    refine aloadN P d3_29 rfl rfl (n := 30) rfl ?_
    refine getF P d3_30 (hw _ (List.mem_of_getElem? (i := 20) rfl)) F_z (n := 33) rfl ?_
    intro T P
    refine istore P d3_33 (l' := #[.val (.ref a), .val (.int u), .val (.long w), .second, .val (.int z)]) rfl (n := 35) rfl ?_
    refine aloadN P d3_35 rfl rfl (n := 36) rfl ?_
    refine getF P d3_36 (hw _ (List.mem_of_getElem? (i := 13) rfl)) F_h (n := 39) rfl ?_
    intro T P
    refine iload P d3_39 rfl (n := 41) rfl ?_
    refine lloadN P d3_41 rfl (n := 42) rfl ?_
    refine stJ P d3_42 A_h (u := k) ⟨by omega, by omega⟩ l3 (n := 43) rfl ?_
    intro T h1 P W2
    replace E_a := Exa.wr W2 E_a
    replace F_s := Fld.other W2 F_s (Or.inl n2)
    replace F_h := Fld.other W2 F_h (Or.inl n2)
    replace F_z := Fld.other W2 F_z (Or.inl n2)
    replace A_s := A_s.other W2 n3
    replace A_h := ARJ.set A_h W2
    refine aloadN P d3_43 rfl rfl (n := 44) rfl ?_
    refine getF P d3_44 (hw _ (List.mem_of_getElem? (i := 10) rfl)) F_s (n := 47) rfl ?_
    intro T P
    refine iloadN P d3_47 rfl (n := 48) rfl ?_
    refine iload P d3_48 rfl (n := 50) rfl ?_
    refine iconst P d3_50 (x := (1 : Int32)) rfl (n := 51) rfl ?_
    refine iadd P d3_51 (n := 52) rfl ?_
    refine nameI (x := (z + (1 : Int32))) (F := fun z3 => Jvm.Own.Ends p e below s rm_c_add n0 (fun v h => ∃ (r y y2 : Int32), v = some (.int r) ∧ y.toInt = ((k + 1 : Nat) : Int) ∧ y2.toInt = ((k + 1 : Nat) : Int) ∧ Exa Z h a "com/example/vestbook/vestbook/PlaceTable" ∧ Fld Z h a "com/example/vestbook/vestbook/PlaceTable" "slots" "[I" (.ref sa) ∧ Fld Z h a "com/example/vestbook/vestbook/PlaceTable" "hashes" "[J" (.ref ha) ∧ Fld Z h a "com/example/vestbook/vestbook/PlaceTable" "size" "I" (.int y2) ∧ ARI Z h sa .int 16 (ovr gs u.toInt.toNat y) ∧ ARJ Z h ha 8 (ovr gh k w)) T (mkF m 52 #[.val (.ref a), .val (.int u), .val (.long w), .second, .val (.int z)] [(.int z3), (.int u), (.ref sa)])) ?_
    intro z3 hz3
    have tz3 : z3.toInt = z.toInt + (1 : Int) := n_iadd hz3 rfl rfl (by omega)
    refine stI P d3_52 A_s (u := u.toInt.toNat) ⟨by omega, by omega⟩ l2 (n := 53) rfl ?_
    intro T h4 P W5
    replace E_a := Exa.wr W5 E_a
    replace F_s := Fld.other W5 F_s (Or.inl n1)
    replace F_h := Fld.other W5 F_h (Or.inl n1)
    replace F_z := Fld.other W5 F_z (Or.inl n1)
    replace A_h := A_h.other W5 (Ne.symm n3)
    replace A_s := ARI.set A_s W5
    refine aloadN P d3_53 rfl rfl (n := 54) rfl ?_
    refine dup P d3_54 rfl (n := 55) rfl ?_
    refine getF P d3_55 (hw _ (List.mem_of_getElem? (i := 20) rfl)) F_z (n := 58) rfl ?_
    intro T P
    refine iconst P d3_58 (x := (1 : Int32)) rfl (n := 59) rfl ?_
    refine iadd P d3_59 (n := 60) rfl ?_
    refine nameI (x := (z + (1 : Int32))) (F := fun z6 => Jvm.Own.Ends p e below s rm_c_add n0 (fun v h => ∃ (r y y2 : Int32), v = some (.int r) ∧ y.toInt = ((k + 1 : Nat) : Int) ∧ y2.toInt = ((k + 1 : Nat) : Int) ∧ Exa Z h a "com/example/vestbook/vestbook/PlaceTable" ∧ Fld Z h a "com/example/vestbook/vestbook/PlaceTable" "slots" "[I" (.ref sa) ∧ Fld Z h a "com/example/vestbook/vestbook/PlaceTable" "hashes" "[J" (.ref ha) ∧ Fld Z h a "com/example/vestbook/vestbook/PlaceTable" "size" "I" (.int y2) ∧ ARI Z h sa .int 16 (ovr gs u.toInt.toNat y) ∧ ARJ Z h ha 8 (ovr gh k w)) T (mkF m 60 #[.val (.ref a), .val (.int u), .val (.long w), .second, .val (.int z)] [(.int z6), (.ref a)])) ?_
    intro z6 hz6
    have tz6 : z6.toInt = z.toInt + (1 : Int) := n_iadd hz6 rfl rfl (by omega)
    refine putF P d3_60 (hw _ (List.mem_of_getElem? (i := 20) rfl)) F_z E_a (Or.inl (hw _ (List.mem_of_getElem? (i := 21) rfl))) (hw _ (List.mem_of_getElem? (i := 1) rfl)) (ty := .int) (by decide) rfl rfl l1 (n := 63) rfl ?_
    intro T h7 P W8
    replace E_a := Exa.wr W8 E_a
    replace F_s := Fld.other W8 F_s (Or.inr (slot_ne (Or.inl (hw _ (List.mem_of_getElem? (i := 11) rfl))) (Or.inl (hw _ (List.mem_of_getElem? (i := 21) rfl))) (by decide) (t := (.array .int)) (t' := .int) (by decide) (by decide)))
    replace F_h := Fld.other W8 F_h (Or.inr (slot_ne (Or.inl (hw _ (List.mem_of_getElem? (i := 14) rfl))) (Or.inl (hw _ (List.mem_of_getElem? (i := 21) rfl))) (by decide) (t := (.array .long)) (t' := .int) (by decide) (by decide)))
    replace A_s := A_s.other W8 (Ne.symm n1)
    replace A_h := A_h.other W8 (Ne.symm n2)
    replace F_z := Fld.same W8 F_z
    refine iconst P d3_63 (x := (2 : Int32)) rfl (n := 64) rfl ?_
    refine aloadN P d3_64 rfl rfl (n := 65) rfl ?_
    refine getF P d3_65 (hw _ (List.mem_of_getElem? (i := 20) rfl)) F_z (n := 68) rfl ?_
    intro T P
    refine imul P d3_68 (n := 69) rfl ?_
    refine nameI (x := ((2 : Int32) * z6)) (F := fun z9 => Jvm.Own.Ends p e below s rm_c_add n0 (fun v h => ∃ (r y y2 : Int32), v = some (.int r) ∧ y.toInt = ((k + 1 : Nat) : Int) ∧ y2.toInt = ((k + 1 : Nat) : Int) ∧ Exa Z h a "com/example/vestbook/vestbook/PlaceTable" ∧ Fld Z h a "com/example/vestbook/vestbook/PlaceTable" "slots" "[I" (.ref sa) ∧ Fld Z h a "com/example/vestbook/vestbook/PlaceTable" "hashes" "[J" (.ref ha) ∧ Fld Z h a "com/example/vestbook/vestbook/PlaceTable" "size" "I" (.int y2) ∧ ARI Z h sa .int 16 (ovr gs u.toInt.toNat y) ∧ ARJ Z h ha 8 (ovr gh k w)) T (mkF m 69 #[.val (.ref a), .val (.int u), .val (.long w), .second, .val (.int z)] [(.int z9)])) ?_
    intro z9 hz9
    have tz9 : z9.toInt = (2 : Int) * z6.toInt := n_imul hz9 rfl rfl (by omega)
    refine aloadN P d3_69 rfl rfl (n := 70) rfl ?_
    refine getF P d3_70 (hw _ (List.mem_of_getElem? (i := 10) rfl)) F_s (n := 73) rfl ?_
    intro T P
    refine alen P d3_73 A_s (x := (16 : Int32)) rfl (n := 74) rfl ?_
    refine icmp_le P d3_74 (n' := 81) (n := 77) (by decide) rfl (fun hc74 => ?_) (fun hc74 => ?_)
    · -- pc 74 taken
      replace hc74 : z9.toInt ≤ (16 : Int) := hc74
      refine iload P d3_81 rfl (n := 83) rfl ?_
      refine retI P d3_83 (by decide) (by decide) ?_
      exact ⟨_, _, _, rfl, by omega, by omega, E_a, F_s, F_h, F_z, A_s, A_h⟩
    · -- pc 74 not taken
      replace hc74 : (16 : Int) < z9.toInt := hc74
      exfalso; omega
  · -- pc 9 not taken
    replace hc9 : z.toInt = (8 : Int) := hc9
    exfalso; omega
theorem d5_0 : decode prog_68_method_6_code 0 = .ok (.iload_n 1, 1) := by decide +kernel
theorem d5_1 : decode prog_68_method_6_code 1 = .ok (.istore 4, 2) := by decide +kernel
theorem d5_3 : decode prog_68_method_6_code 3 = .ok (.aload_n 0, 1) := by decide +kernel
theorem d5_4 : decode prog_68_method_6_code 4 = .ok (.getfield 7, 3) := by decide +kernel
theorem d5_7 : decode prog_68_method_6_code 7 = .ok (.iload 4, 2) := by decide +kernel
theorem d5_9 : decode prog_68_method_6_code 9 = .ok (.iaload, 1) := by decide +kernel
theorem d5_10 : decode prog_68_method_6_code 10 = .ok (.ifCond .eq 39, 3) := by decide +kernel
theorem d5_13 : decode prog_68_method_6_code 13 = .ok (.aload_n 0, 1) := by decide +kernel
theorem d5_14 : decode prog_68_method_6_code 14 = .ok (.getfield 13, 3) := by decide +kernel
theorem d5_17 : decode prog_68_method_6_code 17 = .ok (.aload_n 0, 1) := by decide +kernel
theorem d5_18 : decode prog_68_method_6_code 18 = .ok (.getfield 7, 3) := by decide +kernel
theorem d5_21 : decode prog_68_method_6_code 21 = .ok (.iload 4, 2) := by decide +kernel
theorem d5_23 : decode prog_68_method_6_code 23 = .ok (.iaload, 1) := by decide +kernel
theorem d5_24 : decode prog_68_method_6_code 24 = .ok (.iconst 1, 1) := by decide +kernel
theorem d5_25 : decode prog_68_method_6_code 25 = .ok (.isub, 1) := by decide +kernel
theorem d5_26 : decode prog_68_method_6_code 26 = .ok (.laload, 1) := by decide +kernel
theorem d5_27 : decode prog_68_method_6_code 27 = .ok (.lload_n 2, 1) := by decide +kernel
theorem d5_28 : decode prog_68_method_6_code 28 = .ok (.lcmp, 1) := by decide +kernel
theorem d5_29 : decode prog_68_method_6_code 29 = .ok (.ifCond .eq 20, 3) := by decide +kernel
theorem d5_32 : decode prog_68_method_6_code 32 = .ok (.iload 4, 2) := by decide +kernel
theorem d5_34 : decode prog_68_method_6_code 34 = .ok (.iconst 1, 1) := by decide +kernel
theorem d5_35 : decode prog_68_method_6_code 35 = .ok (.iadd, 1) := by decide +kernel
theorem d5_36 : decode prog_68_method_6_code 36 = .ok (.aload_n 0, 1) := by decide +kernel
theorem d5_37 : decode prog_68_method_6_code 37 = .ok (.getfield 7, 3) := by decide +kernel
theorem d5_40 : decode prog_68_method_6_code 40 = .ok (.arraylength, 1) := by decide +kernel
theorem d5_41 : decode prog_68_method_6_code 41 = .ok (.iconst 1, 1) := by decide +kernel
theorem d5_42 : decode prog_68_method_6_code 42 = .ok (.isub, 1) := by decide +kernel
theorem d5_43 : decode prog_68_method_6_code 43 = .ok (.iand, 1) := by decide +kernel
theorem d5_44 : decode prog_68_method_6_code 44 = .ok (.istore 4, 2) := by decide +kernel
theorem d5_46 : decode prog_68_method_6_code 46 = .ok (.goto (-43), 3) := by decide +kernel
theorem d5_49 : decode prog_68_method_6_code 49 = .ok (.iload 4, 2) := by decide +kernel
theorem d5_51 : decode prog_68_method_6_code 51 = .ok (.ireturn, 1) := by decide +kernel
theorem ef_5 (m : MethodId) (a : Addr) (u : Int32) (w : Int64) : entryFrame m #[(.ref a), (.int u), (.long w)] 5 = mkF m 0 #[.val (.ref a), .val (.int u), .val (.long w), .second, .unset] [] := by first | (simp [entryFrame, mkF, argsToLocals, Value.category]; done) | rfl
abbrev rm_c_walk : Room := { frames := 0, cells := 0, slots := 0, locals := 0 }
set_option maxRecDepth 65536 in
set_option maxHeartbeats 40000000 in
theorem c_walk (l : Launch) (Z : State) (a0 : Array Value) (hw : ∀ d ∈ tables_1, d.before a0 Z = true) (a : Addr) (u : Int32) (w : Int64) (sa ha : Addr) (z : Int32) (gs : Nat → Int32) (gh : Nat → Int64) (n : Nat) (h0 : Heap) (n0 : Nat) (low : n0 ≤ h0.size) (E_a : Exa Z h0 a "com/example/vestbook/vestbook/PlaceTable") (F_s : Fld Z h0 a "com/example/vestbook/vestbook/PlaceTable" "slots" "[I" (.ref sa)) (F_h : Fld Z h0 a "com/example/vestbook/vestbook/PlaceTable" "hashes" "[J" (.ref ha)) (F_z : Fld Z h0 a "com/example/vestbook/vestbook/PlaceTable" "size" "I" (.int z)) (A_s : ARI Z h0 sa .int 16 gs) (A_h : ARJ Z h0 ha 8 gh) (hu : 0 ≤ u.toInt ∧ u.toInt < 16) (hgs : ∀ i, i < 16 → 0 ≤ (gs i).toInt ∧ (gs i).toInt ≤ 8) (hstop : ∃ k0 : Nat, k0 ≤ n ∧ own_stop gs gh w.toInt ((u.toInt.toNat + k0) % 16)) :
    Meth l Z (⟨"com/example/vestbook/vestbook/PlaceTable", "walk", "(IJ)I"⟩ : MethodName) prog_68_method_6_code 5 (some .int) rm_c_walk #[(.ref a), (.int u), (.long w)] h0 n0 (RetI (fun z => ∃ k : Nat, k ≤ n ∧ z.toInt = (((u.toInt.toNat + k) % 16 : Nat) : Int) ∧ own_first (own_stop gs gh w.toInt) u.toInt.toNat k) h0) := by
  refine Meth.of (plainFor_of_name pn_0) low ?_
  intro p e s m args below meth c T P
  refine Ends.cast (ef_5 m a u w) ?_
  refine iloadN P d5_0 rfl (n := 1) rfl ?_
  refine istore P d5_1 (l' := #[.val (.ref a), .val (.int u), .val (.long w), .second, .val (.int u)]) rfl (n := 3) rfl ?_
  have LP : ∀ (r : Nat) (T : State) (x4 : Int32) (j : Nat), Jvm.Own.Pos p l e rm_c_walk s m args below meth c Z "com/example/vestbook/vestbook/PlaceTable" "walk" prog_68_method_6_code 5 (some .int) n0 T h0 0 0 → x4.toInt = (((u.toInt.toNat + j) % 16 : Nat) : Int) → j + r = n → (∀ i, i < j → ¬ own_stop gs gh w.toInt ((u.toInt.toNat + i) % 16)) → Jvm.Own.Ends p e below s rm_c_walk n0 (RetI (fun z => ∃ k : Nat, k ≤ n ∧ z.toInt = (((u.toInt.toNat + k) % 16 : Nat) : Int) ∧ own_first (own_stop gs gh w.toInt) u.toInt.toNat k) h0) T (mkF m 3 #[.val (.ref a), .val (.int u), .val (.long w), .second, .val (.int x4)] []) := by
    intro r
    induction r with
    | zero =>
      intro T x4 j P tx hj hbef
      obtain ⟨y, hy⟩ : ∃ y, y = (u.toInt.toNat + j) % 16 := ⟨_, rfl⟩
      have hy16 : y < 16 := by omega
      rw [← hy] at tx
      have hg := hgs y hy16
      have hst : own_stop gs gh w.toInt y := by
        obtain ⟨k0, hk0, q0⟩ := hstop
        rcases Nat.lt_or_ge k0 j with q | q
        · exact absurd q0 (hbef k0 q)
        · obtain rfl : k0 = j := by omega
          rw [hy]; exact q0
      refine aloadN P d5_3 rfl rfl (n := 4) rfl ?_
      refine getF P d5_4 (hw _ (List.mem_of_getElem? (i := 10) rfl)) F_s (n := 7) rfl ?_
      intro T P
      refine iload P d5_7 rfl (n := 9) rfl ?_
      refine ialoadI P d5_9 A_s (u := y) ⟨tx, hy16⟩ (n := 10) rfl ?_
      refine if0_eq P d5_10 (n' := 49) (n := 13) (by decide) rfl (fun hc10 => ?_) (fun hc10 => ?_)
      · -- pc 10 taken
        replace hc10 : (gs y).toInt = (0 : Int) := hc10
        refine iload P d5_49 rfl (n := 51) rfl ?_
        refine retI P d5_51 (by decide) (by decide) ?_
        refine RetI.mk ⟨j, by omega, by rw [← hy]; exact tx, ?_, hbef⟩
        rw [← hy]
        exact Or.inl hc10
      · -- pc 10 not taken
        replace hc10 : ¬ (gs y).toInt = (0 : Int) := hc10
        refine aloadN P d5_13 rfl rfl (n := 14) rfl ?_
        refine getF P d5_14 (hw _ (List.mem_of_getElem? (i := 13) rfl)) F_h (n := 17) rfl ?_
        intro T P
        refine aloadN P d5_17 rfl rfl (n := 18) rfl ?_
        refine getF P d5_18 (hw _ (List.mem_of_getElem? (i := 10) rfl)) F_s (n := 21) rfl ?_
        intro T P
        refine iload P d5_21 rfl (n := 23) rfl ?_
        refine ialoadI P d5_23 A_s (u := y) ⟨tx, hy16⟩ (n := 24) rfl ?_
        refine iconst P d5_24 (x := (1 : Int32)) rfl (n := 25) rfl ?_
        refine isub P d5_25 (n := 26) rfl ?_
        refine nameI (x := ((gs y) - (1 : Int32))) (F := fun z1 => Jvm.Own.Ends p e below s rm_c_walk n0 (RetI (fun z => ∃ k : Nat, k ≤ n ∧ z.toInt = (((u.toInt.toNat + k) % 16 : Nat) : Int) ∧ own_first (own_stop gs gh w.toInt) u.toInt.toNat k) h0) T (mkF m 26 #[.val (.ref a), .val (.int u), .val (.long w), .second, .val (.int x4)] [(.int z1), (.ref ha)])) ?_
        intro z1 hz1
        have tz1 : z1.toInt = (gs y).toInt - (1 : Int) := n_isub hz1 rfl rfl (by omega)
        refine laloadJ P d5_26 A_h (u := ((gs y).toInt - 1).toNat) ⟨by omega, by omega⟩ (n := 27) rfl ?_
        refine lloadN P d5_27 rfl (n := 28) rfl ?_
        refine lcmp P d5_28 (n := 29) rfl ?_
        refine ifl_eq P d5_29 (n' := 49) (n := 32) (by decide) rfl (fun hc29 => ?_) (fun hc29 => ?_)
        · -- pc 29 taken
          refine iload P d5_49 rfl (n := 51) rfl ?_
          refine retI P d5_51 (by decide) (by decide) ?_
          refine RetI.mk ⟨j, by omega, by rw [← hy]; exact tx, ?_, hbef⟩
          rw [← hy]
          exact Or.inr hc29
        · -- pc 29 not taken
          have hnot : ¬ own_stop gs gh w.toInt ((u.toInt.toNat + j) % 16) := by
            rw [← hy]
            rintro (q | q)
            · exact hc10 q
            · exact hc29 q
          exact absurd (hy ▸ hst) hnot
    | succ r ih =>
      intro T x4 j P tx hj hbef
      obtain ⟨y, hy⟩ : ∃ y, y = (u.toInt.toNat + j) % 16 := ⟨_, rfl⟩
      have hy16 : y < 16 := by omega
      rw [← hy] at tx
      have hg := hgs y hy16
      refine aloadN P d5_3 rfl rfl (n := 4) rfl ?_
      refine getF P d5_4 (hw _ (List.mem_of_getElem? (i := 10) rfl)) F_s (n := 7) rfl ?_
      intro T P
      refine iload P d5_7 rfl (n := 9) rfl ?_
      refine ialoadI P d5_9 A_s (u := y) ⟨tx, hy16⟩ (n := 10) rfl ?_
      refine if0_eq P d5_10 (n' := 49) (n := 13) (by decide) rfl (fun hc10 => ?_) (fun hc10 => ?_)
      · -- pc 10 taken
        replace hc10 : (gs y).toInt = (0 : Int) := hc10
        refine iload P d5_49 rfl (n := 51) rfl ?_
        refine retI P d5_51 (by decide) (by decide) ?_
        refine RetI.mk ⟨j, by omega, by rw [← hy]; exact tx, ?_, hbef⟩
        rw [← hy]
        exact Or.inl hc10
      · -- pc 10 not taken
        replace hc10 : ¬ (gs y).toInt = (0 : Int) := hc10
        refine aloadN P d5_13 rfl rfl (n := 14) rfl ?_
        refine getF P d5_14 (hw _ (List.mem_of_getElem? (i := 13) rfl)) F_h (n := 17) rfl ?_
        intro T P
        refine aloadN P d5_17 rfl rfl (n := 18) rfl ?_
        refine getF P d5_18 (hw _ (List.mem_of_getElem? (i := 10) rfl)) F_s (n := 21) rfl ?_
        intro T P
        refine iload P d5_21 rfl (n := 23) rfl ?_
        refine ialoadI P d5_23 A_s (u := y) ⟨tx, hy16⟩ (n := 24) rfl ?_
        refine iconst P d5_24 (x := (1 : Int32)) rfl (n := 25) rfl ?_
        refine isub P d5_25 (n := 26) rfl ?_
        refine nameI (x := ((gs y) - (1 : Int32))) (F := fun z2 => Jvm.Own.Ends p e below s rm_c_walk n0 (RetI (fun z => ∃ k : Nat, k ≤ n ∧ z.toInt = (((u.toInt.toNat + k) % 16 : Nat) : Int) ∧ own_first (own_stop gs gh w.toInt) u.toInt.toNat k) h0) T (mkF m 26 #[.val (.ref a), .val (.int u), .val (.long w), .second, .val (.int x4)] [(.int z2), (.ref ha)])) ?_
        intro z2 hz2
        have tz2 : z2.toInt = (gs y).toInt - (1 : Int) := n_isub hz2 rfl rfl (by omega)
        refine laloadJ P d5_26 A_h (u := ((gs y).toInt - 1).toNat) ⟨by omega, by omega⟩ (n := 27) rfl ?_
        refine lloadN P d5_27 rfl (n := 28) rfl ?_
        refine lcmp P d5_28 (n := 29) rfl ?_
        refine ifl_eq P d5_29 (n' := 49) (n := 32) (by decide) rfl (fun hc29 => ?_) (fun hc29 => ?_)
        · -- pc 29 taken
          refine iload P d5_49 rfl (n := 51) rfl ?_
          refine retI P d5_51 (by decide) (by decide) ?_
          refine RetI.mk ⟨j, by omega, by rw [← hy]; exact tx, ?_, hbef⟩
          rw [← hy]
          exact Or.inr hc29
        · -- pc 29 not taken
          have hnot : ¬ own_stop gs gh w.toInt ((u.toInt.toNat + j) % 16) := by
            rw [← hy]
            rintro (q | q)
            · exact hc10 q
            · exact hc29 q
          refine iload P d5_32 rfl (n := 34) rfl ?_
          refine iconst P d5_34 (x := (1 : Int32)) rfl (n := 35) rfl ?_
          refine iadd P d5_35 (n := 36) rfl ?_
          refine nameI (x := (x4 + (1 : Int32))) (F := fun z3 => Jvm.Own.Ends p e below s rm_c_walk n0 (RetI (fun z => ∃ k : Nat, k ≤ n ∧ z.toInt = (((u.toInt.toNat + k) % 16 : Nat) : Int) ∧ own_first (own_stop gs gh w.toInt) u.toInt.toNat k) h0) T (mkF m 36 #[.val (.ref a), .val (.int u), .val (.long w), .second, .val (.int x4)] [(.int z3)])) ?_
          intro z3 hz3
          have tz3 : z3.toInt = x4.toInt + (1 : Int) := n_iadd hz3 rfl rfl (by omega)
          refine aloadN P d5_36 rfl rfl (n := 37) rfl ?_
          refine getF P d5_37 (hw _ (List.mem_of_getElem? (i := 10) rfl)) F_s (n := 40) rfl ?_
          intro T P
          refine alen P d5_40 A_s (x := (16 : Int32)) rfl (n := 41) rfl ?_
          refine iconst P d5_41 (x := (1 : Int32)) rfl (n := 42) rfl ?_
          refine isub P d5_42 (n := 43) rfl ?_
          rw [show ((16 : Int32) - (1 : Int32)) = (15 : Int32) from by decide]
          refine iand P d5_43 (n := 44) rfl ?_
          refine nameI (x := (z3 &&& (15 : Int32))) (F := fun z4 => Jvm.Own.Ends p e below s rm_c_walk n0 (RetI (fun z => ∃ k : Nat, k ≤ n ∧ z.toInt = (((u.toInt.toNat + k) % 16 : Nat) : Int) ∧ own_first (own_stop gs gh w.toInt) u.toInt.toNat k) h0) T (mkF m 44 #[.val (.ref a), .val (.int u), .val (.long w), .second, .val (.int x4)] [(.int z4)])) ?_
          intro z4 hz4
          have tz4 : z4.toInt = z3.toInt % 16 := n_mask 4 hz4 rfl (by decide)
          refine istore P d5_44 (l' := #[.val (.ref a), .val (.int u), .val (.long w), .second, .val (.int z4)]) rfl (n := 46) rfl ?_
          refine goto P d5_46 (n := 3) (by decide) ?_
          exact ih T z4 (j + 1) P (by omega) (by omega) (fun i hi => by
              rcases Nat.lt_succ_iff_lt_or_eq.mp hi with q | rfl
              · exact hbef i q
              · exact hnot)
  exact LP n T u 0 P (by omega) (by omega) (fun i hi => absurd hi (Nat.not_lt_zero i))
theorem d4_0 : decode prog_68_method_3_code 0 = .ok (.aload_n 0, 1) := by decide +kernel
theorem d4_1 : decode prog_68_method_3_code 1 = .ok (.iload_n 1, 1) := by decide +kernel
theorem d4_2 : decode prog_68_method_3_code 2 = .ok (.iconst 1, 1) := by decide +kernel
theorem d4_3 : decode prog_68_method_3_code 3 = .ok (.iadd, 1) := by decide +kernel
theorem d4_4 : decode prog_68_method_3_code 4 = .ok (.aload_n 0, 1) := by decide +kernel
theorem d4_5 : decode prog_68_method_3_code 5 = .ok (.getfield 7, 3) := by decide +kernel
theorem d4_8 : decode prog_68_method_3_code 8 = .ok (.arraylength, 1) := by decide +kernel
theorem d4_9 : decode prog_68_method_3_code 9 = .ok (.iconst 1, 1) := by decide +kernel
theorem d4_10 : decode prog_68_method_3_code 10 = .ok (.isub, 1) := by decide +kernel
theorem d4_11 : decode prog_68_method_3_code 11 = .ok (.iand, 1) := by decide +kernel
theorem d4_12 : decode prog_68_method_3_code 12 = .ok (.lload_n 2, 1) := by decide +kernel
theorem d4_13 : decode prog_68_method_3_code 13 = .ok (.invokevirtual 21, 3) := by decide +kernel
theorem d4_16 : decode prog_68_method_3_code 16 = .ok (.ireturn, 1) := by decide +kernel
theorem ef_4 (m : MethodId) (a : Addr) (u : Int32) (w : Int64) : entryFrame m #[(.ref a), (.int u), (.long w)] 4 = mkF m 0 #[.val (.ref a), .val (.int u), .val (.long w), .second] [] := by first | (simp [entryFrame, mkF, argsToLocals, Value.category]; done) | rfl
theorem pd_0 : parseMethodDescriptor "(IJ)I" = some ⟨[.int, .long], some .int⟩ := by decide +kernel
abbrev rm_c_next : Room := { frames := 1, cells := 0, slots := 0, locals := 16 }
set_option maxRecDepth 65536 in
set_option maxHeartbeats 40000000 in
theorem c_next (l : Launch) (Z : State) (a0 : Array Value) (hw : ∀ d ∈ tables_1, d.before a0 Z = true) (a : Addr) (u : Int32) (w : Int64) (sa ha : Addr) (z : Int32) (gs : Nat → Int32) (gh : Nat → Int64) (n : Nat) (h0 : Heap) (n0 : Nat) (low : n0 ≤ h0.size) (E_a : Exa Z h0 a "com/example/vestbook/vestbook/PlaceTable") (F_s : Fld Z h0 a "com/example/vestbook/vestbook/PlaceTable" "slots" "[I" (.ref sa)) (F_h : Fld Z h0 a "com/example/vestbook/vestbook/PlaceTable" "hashes" "[J" (.ref ha)) (F_z : Fld Z h0 a "com/example/vestbook/vestbook/PlaceTable" "size" "I" (.int z)) (A_s : ARI Z h0 sa .int 16 gs) (A_h : ARJ Z h0 ha 8 gh) (hu : 0 ≤ u.toInt ∧ u.toInt < 16) (hgs : ∀ i, i < 16 → 0 ≤ (gs i).toInt ∧ (gs i).toInt ≤ 8) (hstop : ∃ k0 : Nat, k0 ≤ n ∧ own_stop gs gh w.toInt (((u.toInt.toNat + 1) % 16 + k0) % 16)) :
    Meth l Z (⟨"com/example/vestbook/vestbook/PlaceTable", "nextSlot", "(IJ)I"⟩ : MethodName) prog_68_method_3_code 4 (some .int) rm_c_next #[(.ref a), (.int u), (.long w)] h0 n0 (RetI (fun z => ∃ k : Nat, k ≤ n ∧ z.toInt = ((((u.toInt.toNat + 1) % 16 + k) % 16 : Nat) : Int) ∧ own_first (own_stop gs gh w.toInt) ((u.toInt.toNat + 1) % 16) k) h0) := by
  refine Meth.of (plainFor_of_name pn_0) low ?_
  intro p e s m args below meth c T P
  refine Ends.cast (ef_4 m a u w) ?_
  refine aloadN P d4_0 rfl rfl (n := 1) rfl ?_
  refine iloadN P d4_1 rfl (n := 2) rfl ?_
  refine iconst P d4_2 (x := (1 : Int32)) rfl (n := 3) rfl ?_
  refine iadd P d4_3 (n := 4) rfl ?_
  refine nameI (x := (u + (1 : Int32))) (F := fun z1 => Jvm.Own.Ends p e below s rm_c_next n0 (RetI (fun z => ∃ k : Nat, k ≤ n ∧ z.toInt = ((((u.toInt.toNat + 1) % 16 + k) % 16 : Nat) : Int) ∧ own_first (own_stop gs gh w.toInt) ((u.toInt.toNat + 1) % 16) k) h0) T (mkF m 4 #[.val (.ref a), .val (.int u), .val (.long w), .second] [(.int z1), (.ref a)])) ?_
  intro z1 hz1
  have tz1 : z1.toInt = u.toInt + (1 : Int) := n_iadd hz1 rfl rfl (by omega)
  refine aloadN P d4_4 rfl rfl (n := 5) rfl ?_
  refine getF P d4_5 (hw _ (List.mem_of_getElem? (i := 10) rfl)) F_s (n := 8) rfl ?_
  intro T P
  refine alen P d4_8 A_s (x := (16 : Int32)) rfl (n := 9) rfl ?_
  refine iconst P d4_9 (x := (1 : Int32)) rfl (n := 10) rfl ?_
  refine isub P d4_10 (n := 11) rfl ?_
  rw [show ((16 : Int32) - (1 : Int32)) = (15 : Int32) from by decide]
  refine iand P d4_11 (n := 12) rfl ?_
  refine nameI (x := (z1 &&& (15 : Int32))) (F := fun z2 => Jvm.Own.Ends p e below s rm_c_next n0 (RetI (fun z => ∃ k : Nat, k ≤ n ∧ z.toInt = ((((u.toInt.toNat + 1) % 16 + k) % 16 : Nat) : Int) ∧ own_first (own_stop gs gh w.toInt) ((u.toInt.toNat + 1) % 16) k) h0) T (mkF m 12 #[.val (.ref a), .val (.int u), .val (.long w), .second] [(.int z2), (.ref a)])) ?_
  intro z2 hz2
  have tz2 : z2.toInt = z1.toInt % 16 := n_mask 4 hz2 rfl (by decide)
  have eu : z2.toInt.toNat = (u.toInt.toNat + 1) % 16 := by omega
  refine lloadN P d4_12 rfl (n := 13) rfl ?_
  refine callP P d4_13 (a := a) (argsL := [(.int z2), (.long w)]) (rest := []) (c_walk l Z a0 hw a z2 w sa ha z gs gh n h0 n0 P.low E_a F_s F_h F_z A_s A_h (by omega) hgs (by rw [eu]; exact hstop)) E_a (hw _ (List.mem_of_getElem? (i := 27) rfl)) (hw _ (List.mem_of_getElem? (i := 28) rfl)) (hw _ (List.mem_of_getElem? (i := 1) rfl)) (hw _ (List.mem_of_getElem? (i := 29) rfl)) (hw _ (List.mem_of_getElem? (i := 2) rfl)) (hw _ (List.mem_of_getElem? (i := 30) rfl)) (by decide) pd_0 rfl rfl rfl ⟨by decide, Nat.le_of_ble_eq_true rfl, by decide, by decide⟩ (n := 16) rfl (RetI.on ?_)
  intro T r3 P hr3
  refine retI P d4_16 (by decide) (by decide) ?_
  rw [eu] at hr3
  exact RetI.mk hr3
theorem d7_0 : decode method_3_code 0 = .ok (.iload_n 0, 1) := by decide +kernel
theorem d7_1 : decode method_3_code 1 = .ok (.iload_n 1, 1) := by decide +kernel
theorem d7_2 : decode method_3_code 2 = .ok (.if_icmp .ne 17, 3) := by decide +kernel
theorem d7_5 : decode method_3_code 5 = .ok (.lload 5, 2) := by decide +kernel
theorem d7_7 : decode method_3_code 7 = .ok (.lload 11, 2) := by decide +kernel
theorem d7_9 : decode method_3_code 9 = .ok (.lcmp, 1) := by decide +kernel
theorem d7_10 : decode method_3_code 10 = .ok (.ifCond .ne 7, 3) := by decide +kernel
theorem d7_13 : decode method_3_code 13 = .ok (.iconst 1, 1) := by decide +kernel
theorem d7_14 : decode method_3_code 14 = .ok (.goto 4, 3) := by decide +kernel
theorem d7_17 : decode method_3_code 17 = .ok (.iconst 0, 1) := by decide +kernel
theorem d7_18 : decode method_3_code 18 = .ok (.ireturn, 1) := by decide +kernel
theorem d7_19 : decode method_3_code 19 = .ok (.iload_n 0, 1) := by decide +kernel
theorem d7_20 : decode method_3_code 20 = .ok (.iload_n 2, 1) := by decide +kernel
theorem d7_21 : decode method_3_code 21 = .ok (.if_icmp .ne 17, 3) := by decide +kernel
theorem d7_24 : decode method_3_code 24 = .ok (.lload 7, 2) := by decide +kernel
theorem d7_26 : decode method_3_code 26 = .ok (.lload 11, 2) := by decide +kernel
theorem d7_28 : decode method_3_code 28 = .ok (.lcmp, 1) := by decide +kernel
theorem d7_29 : decode method_3_code 29 = .ok (.ifCond .ne 7, 3) := by decide +kernel
theorem d7_32 : decode method_3_code 32 = .ok (.iconst 1, 1) := by decide +kernel
theorem d7_33 : decode method_3_code 33 = .ok (.goto 4, 3) := by decide +kernel
theorem d7_36 : decode method_3_code 36 = .ok (.iconst 0, 1) := by decide +kernel
theorem d7_37 : decode method_3_code 37 = .ok (.ireturn, 1) := by decide +kernel
theorem d7_38 : decode method_3_code 38 = .ok (.iload 4, 2) := by decide +kernel
theorem d7_40 : decode method_3_code 40 = .ok (.ifCond .eq 22, 3) := by decide +kernel
theorem d7_43 : decode method_3_code 43 = .ok (.iload_n 0, 1) := by decide +kernel
theorem d7_44 : decode method_3_code 44 = .ok (.iload_n 3, 1) := by decide +kernel
theorem d7_45 : decode method_3_code 45 = .ok (.if_icmp .ne 17, 3) := by decide +kernel
theorem d7_48 : decode method_3_code 48 = .ok (.lload 9, 2) := by decide +kernel
theorem d7_50 : decode method_3_code 50 = .ok (.lload 11, 2) := by decide +kernel
theorem d7_52 : decode method_3_code 52 = .ok (.lcmp, 1) := by decide +kernel
theorem d7_53 : decode method_3_code 53 = .ok (.ifCond .ne 7, 3) := by decide +kernel
theorem d7_56 : decode method_3_code 56 = .ok (.iconst 1, 1) := by decide +kernel
theorem d7_57 : decode method_3_code 57 = .ok (.goto 4, 3) := by decide +kernel
theorem d7_60 : decode method_3_code 60 = .ok (.iconst 0, 1) := by decide +kernel
theorem d7_61 : decode method_3_code 61 = .ok (.ireturn, 1) := by decide +kernel
theorem d7_62 : decode method_3_code 62 = .ok (.iconst 1, 1) := by decide +kernel
theorem d7_63 : decode method_3_code 63 = .ok (.ireturn, 1) := by decide +kernel
theorem ef_7 (m : MethodId) (t : Int32) (ka : Int32) (kb : Int32) (kc : Int32) (ad : Int32) (q1 : Int64) (q2 : Int64) (q3 : Int64) (w : Int64) : entryFrame m #[(.int t), (.int ka), (.int kb), (.int kc), (.int ad), (.long q1), (.long q2), (.long q3), (.long w)] 13 = mkF m 0 #[.val (.int t), .val (.int ka), .val (.int kb), .val (.int kc), .val (.int ad), .val (.long q1), .second, .val (.long q2), .second, .val (.long q3), .second, .val (.long w), .second] [] := by first | (simp [entryFrame, mkF, argsToLocals, Value.category]; done) | rfl
theorem pn_1 : plainName "com/example/vestbook/vestbook/PlaceTableNextSlotPinLaw" = true := by first | (simp [plainName, overriddenIn]; done) | decide +kernel
abbrev rm_c_stops : Room := { frames := 0, cells := 0, slots := 0, locals := 0 }
set_option maxRecDepth 65536 in
set_option maxHeartbeats 40000000 in
theorem c_stops (l : Launch) (Z : State) (a0 : Array Value) (hw : ∀ d ∈ tables_1, d.before a0 Z = true) (t : Int32) (ka : Int32) (kb : Int32) (kc : Int32) (ad : Int32) (q1 : Int64) (q2 : Int64) (q3 : Int64) (w : Int64)  (h0 : Heap) (n0 : Nat) (low : n0 ≤ h0.size) (hab : ad.toInt = 0 ∨ ad.toInt = 1) :
    Meth l Z (⟨"com/example/vestbook/vestbook/PlaceTableNextSlotPinLaw", "stops", "(IIIIZJJJJ)Z"⟩ : MethodName) method_3_code 13 (some .boolean) rm_c_stops #[(.int t), (.int ka), (.int kb), (.int kc), (.int ad), (.long q1), (.long q2), (.long q3), (.long w)] h0 n0 (RetI (fun z => (own_S t.toInt ka.toInt kb.toInt kc.toInt ad.toInt q1.toInt q2.toInt q3.toInt w.toInt ∧ z.toInt = 1) ∨ (¬ own_S t.toInt ka.toInt kb.toInt kc.toInt ad.toInt q1.toInt q2.toInt q3.toInt w.toInt ∧ z.toInt = 0)) h0) := by
  refine Meth.of (plainFor_of_name pn_1) low ?_
  intro p e s m args below meth c T P
  refine Ends.cast (ef_7 m t ka kb kc ad q1 q2 q3 w) ?_
  refine iloadN P d7_0 rfl (n := 1) rfl ?_
  refine iloadN P d7_1 rfl (n := 2) rfl ?_
  refine icmp_ne P d7_2 (n' := 19) (n := 5) (by decide) rfl (fun hc2 => ?_) (fun hc2 => ?_)
  · -- pc 2 taken
    refine iloadN P d7_19 rfl (n := 20) rfl ?_
    refine iloadN P d7_20 rfl (n := 21) rfl ?_
    refine icmp_ne P d7_21 (n' := 38) (n := 24) (by decide) rfl (fun hc21 => ?_) (fun hc21 => ?_)
    · -- pc 21 taken
      refine iload P d7_38 rfl (n := 40) rfl ?_
      refine if0_eq P d7_40 (n' := 62) (n := 43) (by decide) rfl (fun hc40 => ?_) (fun hc40 => ?_)
      · -- pc 40 taken
        replace hc40 : ad.toInt = (0 : Int) := hc40
        refine iconst P d7_62 (x := (1 : Int32)) rfl (n := 63) rfl ?_
        refine retZ P d7_63 (by decide) (by decide) (by decide) ?_
        refine RetI.mk ?_
        unfold own_S
        first | exact Or.inl ⟨by omega, rfl⟩ | exact Or.inr ⟨by omega, rfl⟩
      · -- pc 40 not taken
        replace hc40 : ¬ ad.toInt = (0 : Int) := hc40
        refine iloadN P d7_43 rfl (n := 44) rfl ?_
        refine iloadN P d7_44 rfl (n := 45) rfl ?_
        refine icmp_ne P d7_45 (n' := 62) (n := 48) (by decide) rfl (fun hc45 => ?_) (fun hc45 => ?_)
        · -- pc 45 taken
          refine iconst P d7_62 (x := (1 : Int32)) rfl (n := 63) rfl ?_
          refine retZ P d7_63 (by decide) (by decide) (by decide) ?_
          refine RetI.mk ?_
          unfold own_S
          first | exact Or.inl ⟨by omega, rfl⟩ | exact Or.inr ⟨by omega, rfl⟩
        · -- pc 45 not taken
          refine lload P d7_48 rfl (n := 50) rfl ?_
          refine lload P d7_50 rfl (n := 52) rfl ?_
          refine lcmp P d7_52 (n := 53) rfl ?_
          refine ifl_ne P d7_53 (n' := 60) (n := 56) (by decide) rfl (fun hc53 => ?_) (fun hc53 => ?_)
          · -- pc 53 taken
            refine iconst P d7_60 (x := (0 : Int32)) rfl (n := 61) rfl ?_
            refine retZ P d7_61 (by decide) (by decide) (by decide) ?_
            refine RetI.mk ?_
            unfold own_S
            first | exact Or.inl ⟨by omega, rfl⟩ | exact Or.inr ⟨by omega, rfl⟩
          · -- pc 53 not taken
            refine iconst P d7_56 (x := (1 : Int32)) rfl (n := 57) rfl ?_
            refine goto P d7_57 (n := 61) (by decide) ?_
            refine retZ P d7_61 (by decide) (by decide) (by decide) ?_
            refine RetI.mk ?_
            unfold own_S
            first | exact Or.inl ⟨by omega, rfl⟩ | exact Or.inr ⟨by omega, rfl⟩
    · -- pc 21 not taken
      refine lload P d7_24 rfl (n := 26) rfl ?_
      refine lload P d7_26 rfl (n := 28) rfl ?_
      refine lcmp P d7_28 (n := 29) rfl ?_
      refine ifl_ne P d7_29 (n' := 36) (n := 32) (by decide) rfl (fun hc29 => ?_) (fun hc29 => ?_)
      · -- pc 29 taken
        refine iconst P d7_36 (x := (0 : Int32)) rfl (n := 37) rfl ?_
        refine retZ P d7_37 (by decide) (by decide) (by decide) ?_
        refine RetI.mk ?_
        unfold own_S
        first | exact Or.inl ⟨by omega, rfl⟩ | exact Or.inr ⟨by omega, rfl⟩
      · -- pc 29 not taken
        refine iconst P d7_32 (x := (1 : Int32)) rfl (n := 33) rfl ?_
        refine goto P d7_33 (n := 37) (by decide) ?_
        refine retZ P d7_37 (by decide) (by decide) (by decide) ?_
        refine RetI.mk ?_
        unfold own_S
        first | exact Or.inl ⟨by omega, rfl⟩ | exact Or.inr ⟨by omega, rfl⟩
  · -- pc 2 not taken
    refine lload P d7_5 rfl (n := 7) rfl ?_
    refine lload P d7_7 rfl (n := 9) rfl ?_
    refine lcmp P d7_9 (n := 10) rfl ?_
    refine ifl_ne P d7_10 (n' := 17) (n := 13) (by decide) rfl (fun hc10 => ?_) (fun hc10 => ?_)
    · -- pc 10 taken
      refine iconst P d7_17 (x := (0 : Int32)) rfl (n := 18) rfl ?_
      refine retZ P d7_18 (by decide) (by decide) (by decide) ?_
      refine RetI.mk ?_
      unfold own_S
      first | exact Or.inl ⟨by omega, rfl⟩ | exact Or.inr ⟨by omega, rfl⟩
    · -- pc 10 not taken
      refine iconst P d7_13 (x := (1 : Int32)) rfl (n := 14) rfl ?_
      refine goto P d7_14 (n := 18) (by decide) ?_
      refine retZ P d7_18 (by decide) (by decide) (by decide) ?_
      refine RetI.mk ?_
      unfold own_S
      first | exact Or.inl ⟨by omega, rfl⟩ | exact Or.inr ⟨by omega, rfl⟩
theorem d6_0 : decode method_4_code 0 = .ok (.iload_n 0, 1) := by decide +kernel
theorem d6_1 : decode method_4_code 1 = .ok (.iconst 1, 1) := by decide +kernel
theorem d6_2 : decode method_4_code 2 = .ok (.iadd, 1) := by decide +kernel
theorem d6_3 : decode method_4_code 3 = .ok (.bipush 15, 2) := by decide +kernel
theorem d6_5 : decode method_4_code 5 = .ok (.iand, 1) := by decide +kernel
theorem d6_6 : decode method_4_code 6 = .ok (.istore 13, 2) := by decide +kernel
theorem d6_8 : decode method_4_code 8 = .ok (.iload 13, 2) := by decide +kernel
theorem d6_10 : decode method_4_code 10 = .ok (.iload_n 1, 1) := by decide +kernel
theorem d6_11 : decode method_4_code 11 = .ok (.iload_n 2, 1) := by decide +kernel
theorem d6_12 : decode method_4_code 12 = .ok (.iload_n 3, 1) := by decide +kernel
theorem d6_13 : decode method_4_code 13 = .ok (.iload 4, 2) := by decide +kernel
theorem d6_15 : decode method_4_code 15 = .ok (.lload 5, 2) := by decide +kernel
theorem d6_17 : decode method_4_code 17 = .ok (.lload 7, 2) := by decide +kernel
theorem d6_19 : decode method_4_code 19 = .ok (.lload 9, 2) := by decide +kernel
theorem d6_21 : decode method_4_code 21 = .ok (.lload 11, 2) := by decide +kernel
theorem d6_23 : decode method_4_code 23 = .ok (.invokestatic 23, 3) := by decide +kernel
theorem d6_26 : decode method_4_code 26 = .ok (.ifCond .eq 6, 3) := by decide +kernel
theorem d6_29 : decode method_4_code 29 = .ok (.iload 13, 2) := by decide +kernel
theorem d6_31 : decode method_4_code 31 = .ok (.ireturn, 1) := by decide +kernel
theorem d6_32 : decode method_4_code 32 = .ok (.iload 13, 2) := by decide +kernel
theorem d6_34 : decode method_4_code 34 = .ok (.iconst 1, 1) := by decide +kernel
theorem d6_35 : decode method_4_code 35 = .ok (.iadd, 1) := by decide +kernel
theorem d6_36 : decode method_4_code 36 = .ok (.bipush 15, 2) := by decide +kernel
theorem d6_38 : decode method_4_code 38 = .ok (.iand, 1) := by decide +kernel
theorem d6_39 : decode method_4_code 39 = .ok (.istore 14, 2) := by decide +kernel
theorem d6_41 : decode method_4_code 41 = .ok (.iload 14, 2) := by decide +kernel
theorem d6_43 : decode method_4_code 43 = .ok (.iload_n 1, 1) := by decide +kernel
theorem d6_44 : decode method_4_code 44 = .ok (.iload_n 2, 1) := by decide +kernel
theorem d6_45 : decode method_4_code 45 = .ok (.iload_n 3, 1) := by decide +kernel
theorem d6_46 : decode method_4_code 46 = .ok (.iload 4, 2) := by decide +kernel
theorem d6_48 : decode method_4_code 48 = .ok (.lload 5, 2) := by decide +kernel
theorem d6_50 : decode method_4_code 50 = .ok (.lload 7, 2) := by decide +kernel
theorem d6_52 : decode method_4_code 52 = .ok (.lload 9, 2) := by decide +kernel
theorem d6_54 : decode method_4_code 54 = .ok (.lload 11, 2) := by decide +kernel
theorem d6_56 : decode method_4_code 56 = .ok (.invokestatic 23, 3) := by decide +kernel
theorem d6_59 : decode method_4_code 59 = .ok (.ifCond .eq 6, 3) := by decide +kernel
theorem d6_62 : decode method_4_code 62 = .ok (.iload 14, 2) := by decide +kernel
theorem d6_64 : decode method_4_code 64 = .ok (.ireturn, 1) := by decide +kernel
theorem d6_65 : decode method_4_code 65 = .ok (.iload 14, 2) := by decide +kernel
theorem d6_67 : decode method_4_code 67 = .ok (.iconst 1, 1) := by decide +kernel
theorem d6_68 : decode method_4_code 68 = .ok (.iadd, 1) := by decide +kernel
theorem d6_69 : decode method_4_code 69 = .ok (.bipush 15, 2) := by decide +kernel
theorem d6_71 : decode method_4_code 71 = .ok (.iand, 1) := by decide +kernel
theorem d6_72 : decode method_4_code 72 = .ok (.istore 15, 2) := by decide +kernel
theorem d6_74 : decode method_4_code 74 = .ok (.iload 15, 2) := by decide +kernel
theorem d6_76 : decode method_4_code 76 = .ok (.iload_n 1, 1) := by decide +kernel
theorem d6_77 : decode method_4_code 77 = .ok (.iload_n 2, 1) := by decide +kernel
theorem d6_78 : decode method_4_code 78 = .ok (.iload_n 3, 1) := by decide +kernel
theorem d6_79 : decode method_4_code 79 = .ok (.iload 4, 2) := by decide +kernel
theorem d6_81 : decode method_4_code 81 = .ok (.lload 5, 2) := by decide +kernel
theorem d6_83 : decode method_4_code 83 = .ok (.lload 7, 2) := by decide +kernel
theorem d6_85 : decode method_4_code 85 = .ok (.lload 9, 2) := by decide +kernel
theorem d6_87 : decode method_4_code 87 = .ok (.lload 11, 2) := by decide +kernel
theorem d6_89 : decode method_4_code 89 = .ok (.invokestatic 23, 3) := by decide +kernel
theorem d6_92 : decode method_4_code 92 = .ok (.ifCond .eq 6, 3) := by decide +kernel
theorem d6_95 : decode method_4_code 95 = .ok (.iload 15, 2) := by decide +kernel
theorem d6_97 : decode method_4_code 97 = .ok (.ireturn, 1) := by decide +kernel
theorem d6_98 : decode method_4_code 98 = .ok (.iload 15, 2) := by decide +kernel
theorem d6_100 : decode method_4_code 100 = .ok (.iconst 1, 1) := by decide +kernel
theorem d6_101 : decode method_4_code 101 = .ok (.iadd, 1) := by decide +kernel
theorem d6_102 : decode method_4_code 102 = .ok (.bipush 15, 2) := by decide +kernel
theorem d6_104 : decode method_4_code 104 = .ok (.iand, 1) := by decide +kernel
theorem d6_105 : decode method_4_code 105 = .ok (.ireturn, 1) := by decide +kernel
theorem ef_6 (m : MethodId) (u : Int32) (ka : Int32) (kb : Int32) (kc : Int32) (ad : Int32) (q1 : Int64) (q2 : Int64) (q3 : Int64) (w : Int64) : entryFrame m #[(.int u), (.int ka), (.int kb), (.int kc), (.int ad), (.long q1), (.long q2), (.long q3), (.long w)] 16 = mkF m 0 #[.val (.int u), .val (.int ka), .val (.int kb), .val (.int kc), .val (.int ad), .val (.long q1), .second, .val (.long q2), .second, .val (.long q3), .second, .val (.long w), .second, .unset, .unset, .unset] [] := by first | (simp [entryFrame, mkF, argsToLocals, Value.category]; done) | rfl
theorem pd_1 : parseMethodDescriptor "(IIIIZJJJJ)Z" = some ⟨[.int, .int, .int, .int, .boolean, .long, .long, .long, .long], some .boolean⟩ := by decide +kernel
abbrev rm_c_exp : Room := { frames := 1, cells := 0, slots := 0, locals := 24 }
set_option maxRecDepth 65536 in
set_option maxHeartbeats 40000000 in
theorem c_exp (l : Launch) (Z : State) (a0 : Array Value) (hw : ∀ d ∈ tables_1, d.before a0 Z = true) (u : Int32) (ka : Int32) (kb : Int32) (kc : Int32) (ad : Int32) (q1 : Int64) (q2 : Int64) (q3 : Int64) (w : Int64)  (h0 : Heap) (n0 : Nat) (low : n0 ≤ h0.size) (hab : ad.toInt = 0 ∨ ad.toInt = 1) (hu : 0 ≤ u.toInt ∧ u.toInt < 16) :
    Meth l Z (⟨"com/example/vestbook/vestbook/PlaceTableNextSlotPinLaw", "expected", "(IIIIZJJJJ)I"⟩ : MethodName) method_4_code 16 (some .int) rm_c_exp #[(.int u), (.int ka), (.int kb), (.int kc), (.int ad), (.long q1), (.long q2), (.long q3), (.long w)] h0 n0 (RetI (fun z => ∃ k : Nat, k ≤ 3 ∧ z.toInt = ((((u.toInt.toNat + 1) % 16 + k) % 16 : Nat) : Int) ∧ (k < 3 → own_S (((u.toInt.toNat + 1) % 16 + k) % 16 : Nat) ka.toInt kb.toInt kc.toInt ad.toInt q1.toInt q2.toInt q3.toInt w.toInt) ∧ (∀ j : Nat, j < k → ¬ own_S (((u.toInt.toNat + 1) % 16 + j) % 16 : Nat) ka.toInt kb.toInt kc.toInt ad.toInt q1.toInt q2.toInt q3.toInt w.toInt)) h0) := by
  refine Meth.of (plainFor_of_name pn_1) low ?_
  intro p e s m args below meth c T P
  refine Ends.cast (ef_6 m u ka kb kc ad q1 q2 q3 w) ?_
  refine iloadN P d6_0 rfl (n := 1) rfl ?_
  refine iconst P d6_1 (x := (1 : Int32)) rfl (n := 2) rfl ?_
  refine iadd P d6_2 (n := 3) rfl ?_
  refine nameI (x := (u + (1 : Int32))) (F := fun z1 => Jvm.Own.Ends p e below s rm_c_exp n0 (RetI (fun z => ∃ k : Nat, k ≤ 3 ∧ z.toInt = ((((u.toInt.toNat + 1) % 16 + k) % 16 : Nat) : Int) ∧ (k < 3 → own_S (((u.toInt.toNat + 1) % 16 + k) % 16 : Nat) ka.toInt kb.toInt kc.toInt ad.toInt q1.toInt q2.toInt q3.toInt w.toInt) ∧ (∀ j : Nat, j < k → ¬ own_S (((u.toInt.toNat + 1) % 16 + j) % 16 : Nat) ka.toInt kb.toInt kc.toInt ad.toInt q1.toInt q2.toInt q3.toInt w.toInt)) h0) T (mkF m 3 #[.val (.int u), .val (.int ka), .val (.int kb), .val (.int kc), .val (.int ad), .val (.long q1), .second, .val (.long q2), .second, .val (.long q3), .second, .val (.long w), .second, .unset, .unset, .unset] [(.int z1)])) ?_
  intro z1 hz1
  have tz1 : z1.toInt = u.toInt + (1 : Int) := n_iadd hz1 rfl rfl (by omega)
  refine bipush P d6_3 (x := (15 : Int32)) rfl (n := 5) rfl ?_
  refine iand P d6_5 (n := 6) rfl ?_
  refine nameI (x := (z1 &&& (15 : Int32))) (F := fun z2 => Jvm.Own.Ends p e below s rm_c_exp n0 (RetI (fun z => ∃ k : Nat, k ≤ 3 ∧ z.toInt = ((((u.toInt.toNat + 1) % 16 + k) % 16 : Nat) : Int) ∧ (k < 3 → own_S (((u.toInt.toNat + 1) % 16 + k) % 16 : Nat) ka.toInt kb.toInt kc.toInt ad.toInt q1.toInt q2.toInt q3.toInt w.toInt) ∧ (∀ j : Nat, j < k → ¬ own_S (((u.toInt.toNat + 1) % 16 + j) % 16 : Nat) ka.toInt kb.toInt kc.toInt ad.toInt q1.toInt q2.toInt q3.toInt w.toInt)) h0) T (mkF m 6 #[.val (.int u), .val (.int ka), .val (.int kb), .val (.int kc), .val (.int ad), .val (.long q1), .second, .val (.long q2), .second, .val (.long q3), .second, .val (.long w), .second, .unset, .unset, .unset] [(.int z2)])) ?_
  intro z2 hz2
  have tz2 : z2.toInt = z1.toInt % 16 := n_mask 4 hz2 rfl (by decide)
  refine istore P d6_6 (l' := #[.val (.int u), .val (.int ka), .val (.int kb), .val (.int kc), .val (.int ad), .val (.long q1), .second, .val (.long q2), .second, .val (.long q3), .second, .val (.long w), .second, .val (.int z2), .unset, .unset]) rfl (n := 8) rfl ?_
  refine iload P d6_8 rfl (n := 10) rfl ?_
  refine iloadN P d6_10 rfl (n := 11) rfl ?_
  refine iloadN P d6_11 rfl (n := 12) rfl ?_
  refine iloadN P d6_12 rfl (n := 13) rfl ?_
  refine iload P d6_13 rfl (n := 15) rfl ?_
  refine lload P d6_15 rfl (n := 17) rfl ?_
  refine lload P d6_17 rfl (n := 19) rfl ?_
  refine lload P d6_19 rfl (n := 21) rfl ?_
  refine lload P d6_21 rfl (n := 23) rfl ?_
  refine callS P d6_23 (argsL := [(.int z2), (.int ka), (.int kb), (.int kc), (.int ad), (.long q1), (.long q2), (.long q3), (.long w)]) (rest := []) (c_stops l Z a0 hw z2 ka kb kc ad q1 q2 q3 w h0 n0 P.low (by omega)) (hw _ (List.mem_of_getElem? (i := 35) rfl)) (hw _ (List.mem_of_getElem? (i := 36) rfl)) (hw _ (List.mem_of_getElem? (i := 33) rfl)) (hw _ (List.mem_of_getElem? (i := 37) rfl)) (by decide) pd_1 rfl rfl rfl ⟨by decide, Nat.le_of_ble_eq_true rfl, by decide, by decide⟩ (n := 26) rfl (RetI.on ?_)
  intro T r3 P hr3
  have hr_0 := hr3
  refine if0_eq P d6_26 (n' := 32) (n := 29) (by decide) rfl (fun hc26 => ?_) (fun hc26 => ?_)
  · -- pc 26 taken
    replace hc26 : r3.toInt = (0 : Int) := hc26
    refine iload P d6_32 rfl (n := 34) rfl ?_
    refine iconst P d6_34 (x := (1 : Int32)) rfl (n := 35) rfl ?_
    refine iadd P d6_35 (n := 36) rfl ?_
    refine nameI (x := (z2 + (1 : Int32))) (F := fun z4 => Jvm.Own.Ends p e below s rm_c_exp n0 (RetI (fun z => ∃ k : Nat, k ≤ 3 ∧ z.toInt = ((((u.toInt.toNat + 1) % 16 + k) % 16 : Nat) : Int) ∧ (k < 3 → own_S (((u.toInt.toNat + 1) % 16 + k) % 16 : Nat) ka.toInt kb.toInt kc.toInt ad.toInt q1.toInt q2.toInt q3.toInt w.toInt) ∧ (∀ j : Nat, j < k → ¬ own_S (((u.toInt.toNat + 1) % 16 + j) % 16 : Nat) ka.toInt kb.toInt kc.toInt ad.toInt q1.toInt q2.toInt q3.toInt w.toInt)) h0) T (mkF m 36 #[.val (.int u), .val (.int ka), .val (.int kb), .val (.int kc), .val (.int ad), .val (.long q1), .second, .val (.long q2), .second, .val (.long q3), .second, .val (.long w), .second, .val (.int z2), .unset, .unset] [(.int z4)])) ?_
    intro z4 hz4
    have tz4 : z4.toInt = z2.toInt + (1 : Int) := n_iadd hz4 rfl rfl (by omega)
    refine bipush P d6_36 (x := (15 : Int32)) rfl (n := 38) rfl ?_
    refine iand P d6_38 (n := 39) rfl ?_
    refine nameI (x := (z4 &&& (15 : Int32))) (F := fun z5 => Jvm.Own.Ends p e below s rm_c_exp n0 (RetI (fun z => ∃ k : Nat, k ≤ 3 ∧ z.toInt = ((((u.toInt.toNat + 1) % 16 + k) % 16 : Nat) : Int) ∧ (k < 3 → own_S (((u.toInt.toNat + 1) % 16 + k) % 16 : Nat) ka.toInt kb.toInt kc.toInt ad.toInt q1.toInt q2.toInt q3.toInt w.toInt) ∧ (∀ j : Nat, j < k → ¬ own_S (((u.toInt.toNat + 1) % 16 + j) % 16 : Nat) ka.toInt kb.toInt kc.toInt ad.toInt q1.toInt q2.toInt q3.toInt w.toInt)) h0) T (mkF m 39 #[.val (.int u), .val (.int ka), .val (.int kb), .val (.int kc), .val (.int ad), .val (.long q1), .second, .val (.long q2), .second, .val (.long q3), .second, .val (.long w), .second, .val (.int z2), .unset, .unset] [(.int z5)])) ?_
    intro z5 hz5
    have tz5 : z5.toInt = z4.toInt % 16 := n_mask 4 hz5 rfl (by decide)
    refine istore P d6_39 (l' := #[.val (.int u), .val (.int ka), .val (.int kb), .val (.int kc), .val (.int ad), .val (.long q1), .second, .val (.long q2), .second, .val (.long q3), .second, .val (.long w), .second, .val (.int z2), .val (.int z5), .unset]) rfl (n := 41) rfl ?_
    refine iload P d6_41 rfl (n := 43) rfl ?_
    refine iloadN P d6_43 rfl (n := 44) rfl ?_
    refine iloadN P d6_44 rfl (n := 45) rfl ?_
    refine iloadN P d6_45 rfl (n := 46) rfl ?_
    refine iload P d6_46 rfl (n := 48) rfl ?_
    refine lload P d6_48 rfl (n := 50) rfl ?_
    refine lload P d6_50 rfl (n := 52) rfl ?_
    refine lload P d6_52 rfl (n := 54) rfl ?_
    refine lload P d6_54 rfl (n := 56) rfl ?_
    refine callS P d6_56 (argsL := [(.int z5), (.int ka), (.int kb), (.int kc), (.int ad), (.long q1), (.long q2), (.long q3), (.long w)]) (rest := []) (c_stops l Z a0 hw z5 ka kb kc ad q1 q2 q3 w h0 n0 P.low (by omega)) (hw _ (List.mem_of_getElem? (i := 35) rfl)) (hw _ (List.mem_of_getElem? (i := 36) rfl)) (hw _ (List.mem_of_getElem? (i := 33) rfl)) (hw _ (List.mem_of_getElem? (i := 37) rfl)) (by decide) pd_1 rfl rfl rfl ⟨by decide, Nat.le_of_ble_eq_true rfl, by decide, by decide⟩ (n := 59) rfl (RetI.on ?_)
    intro T r6 P hr6
    have hr_1 := hr6
    refine if0_eq P d6_59 (n' := 65) (n := 62) (by decide) rfl (fun hc59 => ?_) (fun hc59 => ?_)
    · -- pc 59 taken
      replace hc59 : r6.toInt = (0 : Int) := hc59
      refine iload P d6_65 rfl (n := 67) rfl ?_
      refine iconst P d6_67 (x := (1 : Int32)) rfl (n := 68) rfl ?_
      refine iadd P d6_68 (n := 69) rfl ?_
      refine nameI (x := (z5 + (1 : Int32))) (F := fun z7 => Jvm.Own.Ends p e below s rm_c_exp n0 (RetI (fun z => ∃ k : Nat, k ≤ 3 ∧ z.toInt = ((((u.toInt.toNat + 1) % 16 + k) % 16 : Nat) : Int) ∧ (k < 3 → own_S (((u.toInt.toNat + 1) % 16 + k) % 16 : Nat) ka.toInt kb.toInt kc.toInt ad.toInt q1.toInt q2.toInt q3.toInt w.toInt) ∧ (∀ j : Nat, j < k → ¬ own_S (((u.toInt.toNat + 1) % 16 + j) % 16 : Nat) ka.toInt kb.toInt kc.toInt ad.toInt q1.toInt q2.toInt q3.toInt w.toInt)) h0) T (mkF m 69 #[.val (.int u), .val (.int ka), .val (.int kb), .val (.int kc), .val (.int ad), .val (.long q1), .second, .val (.long q2), .second, .val (.long q3), .second, .val (.long w), .second, .val (.int z2), .val (.int z5), .unset] [(.int z7)])) ?_
      intro z7 hz7
      have tz7 : z7.toInt = z5.toInt + (1 : Int) := n_iadd hz7 rfl rfl (by omega)
      refine bipush P d6_69 (x := (15 : Int32)) rfl (n := 71) rfl ?_
      refine iand P d6_71 (n := 72) rfl ?_
      refine nameI (x := (z7 &&& (15 : Int32))) (F := fun z8 => Jvm.Own.Ends p e below s rm_c_exp n0 (RetI (fun z => ∃ k : Nat, k ≤ 3 ∧ z.toInt = ((((u.toInt.toNat + 1) % 16 + k) % 16 : Nat) : Int) ∧ (k < 3 → own_S (((u.toInt.toNat + 1) % 16 + k) % 16 : Nat) ka.toInt kb.toInt kc.toInt ad.toInt q1.toInt q2.toInt q3.toInt w.toInt) ∧ (∀ j : Nat, j < k → ¬ own_S (((u.toInt.toNat + 1) % 16 + j) % 16 : Nat) ka.toInt kb.toInt kc.toInt ad.toInt q1.toInt q2.toInt q3.toInt w.toInt)) h0) T (mkF m 72 #[.val (.int u), .val (.int ka), .val (.int kb), .val (.int kc), .val (.int ad), .val (.long q1), .second, .val (.long q2), .second, .val (.long q3), .second, .val (.long w), .second, .val (.int z2), .val (.int z5), .unset] [(.int z8)])) ?_
      intro z8 hz8
      have tz8 : z8.toInt = z7.toInt % 16 := n_mask 4 hz8 rfl (by decide)
      refine istore P d6_72 (l' := #[.val (.int u), .val (.int ka), .val (.int kb), .val (.int kc), .val (.int ad), .val (.long q1), .second, .val (.long q2), .second, .val (.long q3), .second, .val (.long w), .second, .val (.int z2), .val (.int z5), .val (.int z8)]) rfl (n := 74) rfl ?_
      refine iload P d6_74 rfl (n := 76) rfl ?_
      refine iloadN P d6_76 rfl (n := 77) rfl ?_
      refine iloadN P d6_77 rfl (n := 78) rfl ?_
      refine iloadN P d6_78 rfl (n := 79) rfl ?_
      refine iload P d6_79 rfl (n := 81) rfl ?_
      refine lload P d6_81 rfl (n := 83) rfl ?_
      refine lload P d6_83 rfl (n := 85) rfl ?_
      refine lload P d6_85 rfl (n := 87) rfl ?_
      refine lload P d6_87 rfl (n := 89) rfl ?_
      refine callS P d6_89 (argsL := [(.int z8), (.int ka), (.int kb), (.int kc), (.int ad), (.long q1), (.long q2), (.long q3), (.long w)]) (rest := []) (c_stops l Z a0 hw z8 ka kb kc ad q1 q2 q3 w h0 n0 P.low (by omega)) (hw _ (List.mem_of_getElem? (i := 35) rfl)) (hw _ (List.mem_of_getElem? (i := 36) rfl)) (hw _ (List.mem_of_getElem? (i := 33) rfl)) (hw _ (List.mem_of_getElem? (i := 37) rfl)) (by decide) pd_1 rfl rfl rfl ⟨by decide, Nat.le_of_ble_eq_true rfl, by decide, by decide⟩ (n := 92) rfl (RetI.on ?_)
      intro T r9 P hr9
      have hr_2 := hr9
      refine if0_eq P d6_92 (n' := 98) (n := 95) (by decide) rfl (fun hc92 => ?_) (fun hc92 => ?_)
      · -- pc 92 taken
        replace hc92 : r9.toInt = (0 : Int) := hc92
        refine iload P d6_98 rfl (n := 100) rfl ?_
        refine iconst P d6_100 (x := (1 : Int32)) rfl (n := 101) rfl ?_
        refine iadd P d6_101 (n := 102) rfl ?_
        refine nameI (x := (z8 + (1 : Int32))) (F := fun z10 => Jvm.Own.Ends p e below s rm_c_exp n0 (RetI (fun z => ∃ k : Nat, k ≤ 3 ∧ z.toInt = ((((u.toInt.toNat + 1) % 16 + k) % 16 : Nat) : Int) ∧ (k < 3 → own_S (((u.toInt.toNat + 1) % 16 + k) % 16 : Nat) ka.toInt kb.toInt kc.toInt ad.toInt q1.toInt q2.toInt q3.toInt w.toInt) ∧ (∀ j : Nat, j < k → ¬ own_S (((u.toInt.toNat + 1) % 16 + j) % 16 : Nat) ka.toInt kb.toInt kc.toInt ad.toInt q1.toInt q2.toInt q3.toInt w.toInt)) h0) T (mkF m 102 #[.val (.int u), .val (.int ka), .val (.int kb), .val (.int kc), .val (.int ad), .val (.long q1), .second, .val (.long q2), .second, .val (.long q3), .second, .val (.long w), .second, .val (.int z2), .val (.int z5), .val (.int z8)] [(.int z10)])) ?_
        intro z10 hz10
        have tz10 : z10.toInt = z8.toInt + (1 : Int) := n_iadd hz10 rfl rfl (by omega)
        refine bipush P d6_102 (x := (15 : Int32)) rfl (n := 104) rfl ?_
        refine iand P d6_104 (n := 105) rfl ?_
        refine nameI (x := (z10 &&& (15 : Int32))) (F := fun z11 => Jvm.Own.Ends p e below s rm_c_exp n0 (RetI (fun z => ∃ k : Nat, k ≤ 3 ∧ z.toInt = ((((u.toInt.toNat + 1) % 16 + k) % 16 : Nat) : Int) ∧ (k < 3 → own_S (((u.toInt.toNat + 1) % 16 + k) % 16 : Nat) ka.toInt kb.toInt kc.toInt ad.toInt q1.toInt q2.toInt q3.toInt w.toInt) ∧ (∀ j : Nat, j < k → ¬ own_S (((u.toInt.toNat + 1) % 16 + j) % 16 : Nat) ka.toInt kb.toInt kc.toInt ad.toInt q1.toInt q2.toInt q3.toInt w.toInt)) h0) T (mkF m 105 #[.val (.int u), .val (.int ka), .val (.int kb), .val (.int kc), .val (.int ad), .val (.long q1), .second, .val (.long q2), .second, .val (.long q3), .second, .val (.long w), .second, .val (.int z2), .val (.int z5), .val (.int z8)] [(.int z11)])) ?_
        intro z11 hz11
        have tz11 : z11.toInt = z10.toInt % 16 := n_mask 4 hz11 rfl (by decide)
        refine retI P d6_105 (by decide) (by decide) ?_
        refine RetI.mk ⟨3, by decide, by omega, fun q => absurd q (by decide), ?_⟩
        · intro j hj
          have hk : j = 0 ∨ j = 1 ∨ j = 2 := by omega
          rcases hk with rfl | rfl | rfl
          · have e9 : ((((u.toInt.toNat + 1) % 16 + 0) % 16 : Nat) : Int) = z2.toInt := by omega
            rw [e9]
            rcases hr_0 with q | q
            · exfalso; omega
            · exact q.1
          · have e9 : ((((u.toInt.toNat + 1) % 16 + 1) % 16 : Nat) : Int) = z5.toInt := by omega
            rw [e9]
            rcases hr_1 with q | q
            · exfalso; omega
            · exact q.1
          · have e9 : ((((u.toInt.toNat + 1) % 16 + 2) % 16 : Nat) : Int) = z8.toInt := by omega
            rw [e9]
            rcases hr_2 with q | q
            · exfalso; omega
            · exact q.1
      · -- pc 92 not taken
        replace hc92 : ¬ r9.toInt = (0 : Int) := hc92
        refine iload P d6_95 rfl (n := 97) rfl ?_
        refine retI P d6_97 (by decide) (by decide) ?_
        refine RetI.mk ⟨2, by decide, by omega, fun _ => ?_, ?_⟩
        · have e9 : ((((u.toInt.toNat + 1) % 16 + 2) % 16 : Nat) : Int) = z8.toInt := by omega
          rw [e9]
          rcases hr_2 with q | q
          · exact q.1
          · exfalso; omega
        · intro j hj
          have hk : j = 0 ∨ j = 1 := by omega
          rcases hk with rfl | rfl
          · have e9 : ((((u.toInt.toNat + 1) % 16 + 0) % 16 : Nat) : Int) = z2.toInt := by omega
            rw [e9]
            rcases hr_0 with q | q
            · exfalso; omega
            · exact q.1
          · have e9 : ((((u.toInt.toNat + 1) % 16 + 1) % 16 : Nat) : Int) = z5.toInt := by omega
            rw [e9]
            rcases hr_1 with q | q
            · exfalso; omega
            · exact q.1
    · -- pc 59 not taken
      replace hc59 : ¬ r6.toInt = (0 : Int) := hc59
      refine iload P d6_62 rfl (n := 64) rfl ?_
      refine retI P d6_64 (by decide) (by decide) ?_
      refine RetI.mk ⟨1, by decide, by omega, fun _ => ?_, ?_⟩
      · have e9 : ((((u.toInt.toNat + 1) % 16 + 1) % 16 : Nat) : Int) = z5.toInt := by omega
        rw [e9]
        rcases hr_1 with q | q
        · exact q.1
        · exfalso; omega
      · intro j hj
        have hk : j = 0 := by omega
        rcases hk with rfl
        · have e9 : ((((u.toInt.toNat + 1) % 16 + 0) % 16 : Nat) : Int) = z2.toInt := by omega
          rw [e9]
          rcases hr_0 with q | q
          · exfalso; omega
          · exact q.1
  · -- pc 26 not taken
    replace hc26 : ¬ r3.toInt = (0 : Int) := hc26
    refine iload P d6_29 rfl (n := 31) rfl ?_
    refine retI P d6_31 (by decide) (by decide) ?_
    refine RetI.mk ⟨0, by decide, by omega, fun _ => ?_, ?_⟩
    · have e9 : ((((u.toInt.toNat + 1) % 16 + 0) % 16 : Nat) : Int) = z2.toInt := by omega
      rw [e9]
      rcases hr_0 with q | q
      · exact q.1
      · exfalso; omega
    · intro j hj
      have hk : False := by omega
      exact hk.elim
theorem own_gs {ka kb kc : Nat} {A B C AD : Int} {gs1 gs2 gs3 : Nat → Int32} {gh1 gh2 gh3 : Nat → Int64} {y1 y2 y3 : Int32} {h1 h2 h3 : Int64} (e1 : gs1 = ovr (fun _ => 0) ka y1) (e2 : gs2 = ovr gs1 kb y2) (e3 : gs3 = ovr gs2 kc y3) (f1 : gh1 = ovr (fun _ => 0) 0 h1) (f2 : gh2 = ovr gh1 1 h2) (f3 : gh3 = ovr gh2 2 h3)
    (t1 : y1.toInt = ((0 + 1 : Nat) : Int)) (t2 : y2.toInt = ((1 + 1 : Nat) : Int)) (t3 : y3.toInt = ((2 + 1 : Nat) : Int)) (hA : A = (ka : Int)) (hB : B = (kb : Int)) (hC : C = (kc : Int)) (hD : AD = 1) (hab : ka ≠ kb) (hac : kc ≠ ka) (hbc : kc ≠ kb) (w : Int) (i : Nat) :
    (own_stop gs3 gh3 w i ↔ own_S i A B C AD h1.toInt h2.toInt h3.toInt w) ∧ (i ≠ ka → i ≠ kb → i ≠ kc → own_stop gs3 gh3 w i) ∧ 0 ≤ (gs3 i).toInt ∧ (gs3 i).toInt ≤ 8 := by
  subst hA hB hC hD
  have z0 : (0 : Int32).toInt = 0 := rfl
  have v1 : gs3 ka = y1 := by rw [e3, ovr_ne _ _ (Ne.symm hac), e2, ovr_ne _ _ hab, e1, ovr_at]
  have v2 : gs3 kb = y2 := by rw [e3, ovr_ne _ _ (Ne.symm hbc), e2, ovr_at]
  have v3 : gs3 kc = y3 := by rw [e3, ovr_at]
  have v4 : i ≠ ka → i ≠ kb → i ≠ kc → gs3 i = 0 := fun q1 q2 q3 => by rw [e3, ovr_ne _ _ q3, e2, ovr_ne _ _ q2, e1, ovr_ne _ _ q1]
  have g1 : gh3 0 = h1 := by rw [f3, ovr_ne _ _ (by decide), f2, ovr_ne _ _ (by decide), f1, ovr_at]
  have g2 : gh3 1 = h2 := by rw [f3, ovr_ne _ _ (by decide), f2, ovr_at]
  have g3 : gh3 2 = h3 := by rw [f3, ovr_at]
  unfold own_stop own_S
  by_cases q1 : i = ka
  · subst q1; rw [v1, show (y1.toInt - 1).toNat = 0 by omega, g1]; omega
  · by_cases q2 : i = kb
    · subst q2; rw [v2, show (y2.toInt - 1).toNat = 1 by omega, g2]; omega
    · by_cases q3 : i = kc
      · subst q3; rw [v3, show (y3.toInt - 1).toNat = 2 by omega, g3]; omega
      · rw [v4 q1 q2 q3, z0]; omega
theorem own_gs0 {ka kb : Nat} {A B C AD : Int} {gs1 gs2 : Nat → Int32} {gh1 gh2 : Nat → Int64} {y1 y2 : Int32} {h1 h2 h3 : Int64} (e1 : gs1 = ovr (fun _ => 0) ka y1) (e2 : gs2 = ovr gs1 kb y2) (f1 : gh1 = ovr (fun _ => 0) 0 h1) (f2 : gh2 = ovr gh1 1 h2)
    (t1 : y1.toInt = ((0 + 1 : Nat) : Int)) (t2 : y2.toInt = ((1 + 1 : Nat) : Int)) (hA : A = (ka : Int)) (hB : B = (kb : Int)) (hD : AD = 0) (hab : ka ≠ kb) (w : Int) (i : Nat) :
    (own_stop gs2 gh2 w i ↔ own_S i A B C AD h1.toInt h2.toInt h3.toInt w) ∧ (i ≠ ka → i ≠ kb → i ≠ ka → own_stop gs2 gh2 w i) ∧ 0 ≤ (gs2 i).toInt ∧ (gs2 i).toInt ≤ 8 := by
  subst hA hB hD
  have z0 : (0 : Int32).toInt = 0 := rfl
  have v1 : gs2 ka = y1 := by rw [e2, ovr_ne _ _ hab, e1, ovr_at]
  have v2 : gs2 kb = y2 := by rw [e2, ovr_at]
  have v4 : i ≠ ka → i ≠ kb → gs2 i = 0 := fun q1 q2 => by rw [e2, ovr_ne _ _ q2, e1, ovr_ne _ _ q1]
  have g1 : gh2 0 = h1 := by rw [f2, ovr_ne _ _ (by decide), f1, ovr_at]
  have g2 : gh2 1 = h2 := by rw [f2, ovr_at]
  unfold own_stop own_S
  by_cases q1 : i = ka
  · subst q1; rw [v1, show (y1.toInt - 1).toNat = 0 by omega, g1]; omega
  · by_cases q2 : i = kb
    · subst q2; rw [v2, show (y2.toInt - 1).toNat = 1 by omega, g2]; omega
    · rw [v4 q1 q2, z0]; omega
theorem own_same {p : Nat → Prop} {q : Int → Prop} {x k k' : Nat} (hpq : ∀ i : Nat, p i ↔ q (i : Int)) (hex : ∃ k0 : Nat, k0 ≤ 3 ∧ p ((x + k0) % 16)) (h : own_first p x k) (h3 : k' ≤ 3) (h1 : k' < 3 → q (((x + k') % 16 : Nat) : Int)) (h2 : ∀ j : Nat, j < k' → ¬ q (((x + j) % 16 : Nat) : Int)) : k = k' := by
  refine own_first_uniq h ⟨?_, fun j hj r => h2 j hj ((hpq _).mp r)⟩
  rcases Nat.lt_or_ge k' 3 with r | r
  · exact (hpq _).mpr (h1 r)
  · obtain rfl : k' = 3 := by omega
    obtain ⟨k0, hk0, r0⟩ := hex
    rcases Nat.lt_or_ge k0 3 with t | t
    · exact absurd ((hpq _).mp r0) (h2 k0 t)
    · obtain rfl : k0 = 3 := by omega
      exact r0
theorem ef_0 (m : MethodId) (sl : Int32) (ly : Int32) (q1 : Int64) (q2 : Int64) (q3 : Int64) (qx : Int64) : entryFrame m #[(.int sl), (.int ly), (.long q1), (.long q2), (.long q3), (.long qx)] maxLocals = mkF m 0 #[.val (.int sl), .val (.int ly), .val (.long q1), .second, .val (.long q2), .second, .val (.long q3), .second, .val (.long qx), .second, .unset, .unset, .unset, .unset, .unset, .unset, .unset, .unset, .unset, .unset] [] := by first | (simp [entryFrame, mkF, argsToLocals, Value.category, maxLocals]; done) | rfl
theorem pd_2 : parseMethodDescriptor "()V" = some ⟨[], none⟩ := by decide +kernel
theorem pd_3 : parseMethodDescriptor "(IIIIZJJJJ)I" = some ⟨[.int, .int, .int, .int, .boolean, .long, .long, .long, .long], some .int⟩ := by decide +kernel
set_option maxRecDepth 65536 in
set_option maxHeartbeats 40000000 in
theorem rm_law (l : Launch) (Z : State) (a0 : Array Value) (hw : ∀ d ∈ tables_1, d.before a0 Z = true) (sl : Int32) (ly : Int32) (q1 : Int64) (q2 : Int64) (q3 : Int64) (qx : Int64)  (h0 : Heap) (n0 : Nat) (low : n0 ≤ h0.size)  :
    Meth l Z x code maxLocals ret room_1 #[(.int sl), (.int ly), (.long q1), (.long q2), (.long q3), (.long qx)] h0 n0 (fun v _ => v = some (.int 1)) := by
  refine Meth.of (plainFor_of_name pn_1) low ?_
  intro p e s m args below meth c T P
  refine Ends.cast (ef_0 m sl ly q1 q2 q3 qx) ?_
  refine iloadN P at_0 rfl (n := 1) rfl ?_
  refine bipush P at_1 (x := (15 : Int32)) rfl (n := 3) rfl ?_
  refine iand P at_3 (n := 4) rfl ?_
  refine nameI (x := (sl &&& (15 : Int32))) (F := fun z1 => Jvm.Own.Ends p e below s room_1 n0 (fun v _ => v = some (.int 1)) T (mkF m 4 #[.val (.int sl), .val (.int ly), .val (.long q1), .second, .val (.long q2), .second, .val (.long q3), .second, .val (.long qx), .second, .unset, .unset, .unset, .unset, .unset, .unset, .unset, .unset, .unset, .unset] [(.int z1)])) ?_
  intro z1 hz1
  have tz1 : z1.toInt = sl.toInt % 16 := n_mask 4 hz1 rfl (by decide)
  refine istore P at_4 (l' := #[.val (.int sl), .val (.int ly), .val (.long q1), .second, .val (.long q2), .second, .val (.long q3), .second, .val (.long qx), .second, .val (.int z1), .unset, .unset, .unset, .unset, .unset, .unset, .unset, .unset, .unset]) rfl (n := 6) rfl ?_
  refine iloadN P at_6 rfl (n := 7) rfl ?_
  refine bipush P at_7 (x := (15 : Int32)) rfl (n := 9) rfl ?_
  refine iand P at_9 (n := 10) rfl ?_
  refine nameI (x := (ly &&& (15 : Int32))) (F := fun z2 => Jvm.Own.Ends p e below s room_1 n0 (fun v _ => v = some (.int 1)) T (mkF m 10 #[.val (.int sl), .val (.int ly), .val (.long q1), .second, .val (.long q2), .second, .val (.long q3), .second, .val (.long qx), .second, .val (.int z1), .unset, .unset, .unset, .unset, .unset, .unset, .unset, .unset, .unset] [(.int z2)])) ?_
  intro z2 hz2
  have tz2 : z2.toInt = ly.toInt % 16 := n_mask 4 hz2 rfl (by decide)
  refine istore P at_10 (l' := #[.val (.int sl), .val (.int ly), .val (.long q1), .second, .val (.long q2), .second, .val (.long q3), .second, .val (.long qx), .second, .val (.int z1), .val (.int z2), .unset, .unset, .unset, .unset, .unset, .unset, .unset, .unset]) rfl (n := 12) rfl ?_
  refine iload P at_12 rfl (n := 14) rfl ?_
  refine iconst P at_14 (x := (1 : Int32)) rfl (n := 15) rfl ?_
  refine iadd P at_15 (n := 16) rfl ?_
  refine nameI (x := (z2 + (1 : Int32))) (F := fun z3 => Jvm.Own.Ends p e below s room_1 n0 (fun v _ => v = some (.int 1)) T (mkF m 16 #[.val (.int sl), .val (.int ly), .val (.long q1), .second, .val (.long q2), .second, .val (.long q3), .second, .val (.long qx), .second, .val (.int z1), .val (.int z2), .unset, .unset, .unset, .unset, .unset, .unset, .unset, .unset] [(.int z3)])) ?_
  intro z3 hz3
  have tz3 : z3.toInt = z2.toInt + (1 : Int) := n_iadd hz3 rfl rfl (by omega)
  refine iloadN P at_16 rfl (n := 17) rfl ?_
  refine iconst P at_17 (x := (4 : Int32)) rfl (n := 18) rfl ?_
  refine iushr P at_18 (n := 19) rfl ?_
  refine nameI (x := ((ly.toUInt32 >>> ((4 : Int32) &&& 31).toUInt32).toInt32)) (F := fun z4 => Jvm.Own.Ends p e below s room_1 n0 (fun v _ => v = some (.int 1)) T (mkF m 19 #[.val (.int sl), .val (.int ly), .val (.long q1), .second, .val (.long q2), .second, .val (.long q3), .second, .val (.long qx), .second, .val (.int z1), .val (.int z2), .unset, .unset, .unset, .unset, .unset, .unset, .unset, .unset] [(.int z4), (.int z3)])) ?_
  intro z4 hz4
  have tz4 : z4.toInt = (ly.toInt % 4294967296) / 16 := n_iushr 4 hz4 rfl (by decide)
  refine bipush P at_19 (x := (15 : Int32)) rfl (n := 21) rfl ?_
  refine iand P at_21 (n := 22) rfl ?_
  refine nameI (x := (z4 &&& (15 : Int32))) (F := fun z5 => Jvm.Own.Ends p e below s room_1 n0 (fun v _ => v = some (.int 1)) T (mkF m 22 #[.val (.int sl), .val (.int ly), .val (.long q1), .second, .val (.long q2), .second, .val (.long q3), .second, .val (.long qx), .second, .val (.int z1), .val (.int z2), .unset, .unset, .unset, .unset, .unset, .unset, .unset, .unset] [(.int z5), (.int z3)])) ?_
  intro z5 hz5
  have tz5 : z5.toInt = z4.toInt % 16 := n_mask 4 hz5 rfl (by decide)
  refine bipush P at_22 (x := (15 : Int32)) rfl (n := 24) rfl ?_
  refine irem P at_24 (by decide) (n := 25) rfl ?_
  refine nameI (x := (z5 % (15 : Int32))) (F := fun z6 => Jvm.Own.Ends p e below s room_1 n0 (fun v _ => v = some (.int 1)) T (mkF m 25 #[.val (.int sl), .val (.int ly), .val (.long q1), .second, .val (.long q2), .second, .val (.long q3), .second, .val (.long qx), .second, .val (.int z1), .val (.int z2), .unset, .unset, .unset, .unset, .unset, .unset, .unset, .unset] [(.int z6), (.int z3)])) ?_
  intro z6 hz6
  have tz6 : z6.toInt = z5.toInt % (15 : Int) := n_irem hz6 rfl rfl (by omega)
  refine iadd P at_25 (n := 26) rfl ?_
  refine nameI (x := (z3 + z6)) (F := fun z7 => Jvm.Own.Ends p e below s room_1 n0 (fun v _ => v = some (.int 1)) T (mkF m 26 #[.val (.int sl), .val (.int ly), .val (.long q1), .second, .val (.long q2), .second, .val (.long q3), .second, .val (.long qx), .second, .val (.int z1), .val (.int z2), .unset, .unset, .unset, .unset, .unset, .unset, .unset, .unset] [(.int z7)])) ?_
  intro z7 hz7
  have tz7 : z7.toInt = z3.toInt + z6.toInt := n_iadd hz7 rfl rfl (by omega)
  refine bipush P at_26 (x := (15 : Int32)) rfl (n := 28) rfl ?_
  refine iand P at_28 (n := 29) rfl ?_
  refine nameI (x := (z7 &&& (15 : Int32))) (F := fun z8 => Jvm.Own.Ends p e below s room_1 n0 (fun v _ => v = some (.int 1)) T (mkF m 29 #[.val (.int sl), .val (.int ly), .val (.long q1), .second, .val (.long q2), .second, .val (.long q3), .second, .val (.long qx), .second, .val (.int z1), .val (.int z2), .unset, .unset, .unset, .unset, .unset, .unset, .unset, .unset] [(.int z8)])) ?_
  intro z8 hz8
  have tz8 : z8.toInt = z7.toInt % 16 := n_mask 4 hz8 rfl (by decide)
  refine istore P at_29 (l' := #[.val (.int sl), .val (.int ly), .val (.long q1), .second, .val (.long q2), .second, .val (.long q3), .second, .val (.long qx), .second, .val (.int z1), .val (.int z2), .val (.int z8), .unset, .unset, .unset, .unset, .unset, .unset, .unset]) rfl (n := 31) rfl ?_
  refine iloadN P at_31 rfl (n := 32) rfl ?_
  refine bipush P at_32 (x := (8 : Int32)) rfl (n := 34) rfl ?_
  refine iushr P at_34 (n := 35) rfl ?_
  refine nameI (x := ((ly.toUInt32 >>> ((8 : Int32) &&& 31).toUInt32).toInt32)) (F := fun z9 => Jvm.Own.Ends p e below s room_1 n0 (fun v _ => v = some (.int 1)) T (mkF m 35 #[.val (.int sl), .val (.int ly), .val (.long q1), .second, .val (.long q2), .second, .val (.long q3), .second, .val (.long qx), .second, .val (.int z1), .val (.int z2), .val (.int z8), .unset, .unset, .unset, .unset, .unset, .unset, .unset] [(.int z9)])) ?_
  intro z9 hz9
  have tz9 : z9.toInt = (ly.toInt % 4294967296) / 256 := n_iushr 8 hz9 rfl (by decide)
  refine bipush P at_35 (x := (15 : Int32)) rfl (n := 37) rfl ?_
  refine iand P at_37 (n := 38) rfl ?_
  refine nameI (x := (z9 &&& (15 : Int32))) (F := fun z10 => Jvm.Own.Ends p e below s room_1 n0 (fun v _ => v = some (.int 1)) T (mkF m 38 #[.val (.int sl), .val (.int ly), .val (.long q1), .second, .val (.long q2), .second, .val (.long q3), .second, .val (.long qx), .second, .val (.int z1), .val (.int z2), .val (.int z8), .unset, .unset, .unset, .unset, .unset, .unset, .unset] [(.int z10)])) ?_
  intro z10 hz10
  have tz10 : z10.toInt = z9.toInt % 16 := n_mask 4 hz10 rfl (by decide)
  refine istore P at_38 (l' := #[.val (.int sl), .val (.int ly), .val (.long q1), .second, .val (.long q2), .second, .val (.long q3), .second, .val (.long qx), .second, .val (.int z1), .val (.int z2), .val (.int z8), .val (.int z10), .unset, .unset, .unset, .unset, .unset, .unset]) rfl (n := 40) rfl ?_
  have J1 : ∀ ac : Int32, (ac.toInt = 0 ∨ (ac.toInt = 1 ∧ ¬ z10.toInt = z2.toInt ∧ ¬ z10.toInt = z8.toInt)) → Jvm.Own.Ends p e below s room_1 n0 (fun v _ => v = some (.int 1)) T (mkF m 70 #[.val (.int sl), .val (.int ly), .val (.long q1), .second, .val (.long q2), .second, .val (.long q3), .second, .val (.long qx), .second, .val (.int z1), .val (.int z2), .val (.int z8), .val (.int z10), .val (.int ac), .unset, .unset, .unset, .unset, .unset] []) := by
    intro ac hac
    refine iloadN P at_70 rfl (n := 71) rfl ?_
    refine bipush P at_71 (x := (12 : Int32)) rfl (n := 73) rfl ?_
    refine iushr P at_73 (n := 74) rfl ?_
    refine iconst P at_74 (x := (3 : Int32)) rfl (n := 75) rfl ?_
    refine iand P at_75 (n := 76) rfl ?_
    refine nameI (x := (((ly.toUInt32 >>> ((12 : Int32) &&& 31).toUInt32).toInt32) &&& (3 : Int32))) (F := fun z11 => Jvm.Own.Ends p e below s room_1 n0 (fun v _ => v = some (.int 1)) T (mkF m 76 #[.val (.int sl), .val (.int ly), .val (.long q1), .second, .val (.long q2), .second, .val (.long q3), .second, .val (.long qx), .second, .val (.int z1), .val (.int z2), .val (.int z8), .val (.int z10), .val (.int ac), .unset, .unset, .unset, .unset, .unset] [(.int z11)])) ?_
    intro z11 hz11
    have tz11 : z11.toInt = ((ly.toUInt32 >>> ((12 : Int32) &&& 31).toUInt32).toInt32).toInt % 4 := n_mask 2 hz11 rfl (by decide)
    refine istore P at_76 (l' := #[.val (.int sl), .val (.int ly), .val (.long q1), .second, .val (.long q2), .second, .val (.long q3), .second, .val (.long qx), .second, .val (.int z1), .val (.int z2), .val (.int z8), .val (.int z10), .val (.int ac), .val (.int z11), .unset, .unset, .unset, .unset]) rfl (n := 78) rfl ?_
    have J2 : ∀ hh : Int64, Jvm.Own.Ends p e below s room_1 n0 (fun v _ => v = some (.int 1)) T (mkF m 111 #[.val (.int sl), .val (.int ly), .val (.long q1), .second, .val (.long q2), .second, .val (.long q3), .second, .val (.long qx), .second, .val (.int z1), .val (.int z2), .val (.int z8), .val (.int z10), .val (.int ac), .val (.int z11), .unset, .unset, .unset, .unset] [(.long hh)]) := by
      intro hh
      refine lstore P at_111 (l' := #[.val (.int sl), .val (.int ly), .val (.long q1), .second, .val (.long q2), .second, .val (.long q3), .second, .val (.long qx), .second, .val (.int z1), .val (.int z2), .val (.int z8), .val (.int z10), .val (.int ac), .val (.int z11), .val (.long hh), .second, .unset, .unset]) rfl (n := 113) rfl ?_
      refine newO P at_113 (hw _ (List.mem_of_getElem? (i := 0) rfl)) (hw _ (List.mem_of_getElem? (i := 1) rfl)) (hw _ (List.mem_of_getElem? (i := 2) rfl)) (by decide) (by decide) (n := 116) rfl ?_
      intro T h13 b12 P X14 g15 lo_b12 E_b12 D_b12
      have F_b12_slots := D_b12 (Or.inl (hw _ (List.mem_of_getElem? (i := 11) rfl))) (ty := (.array .int)) (by decide)
      have F_b12_hashes := D_b12 (Or.inl (hw _ (List.mem_of_getElem? (i := 14) rfl))) (ty := (.array .long)) (by decide)
      have F_b12_size := D_b12 (Or.inl (hw _ (List.mem_of_getElem? (i := 21) rfl))) (ty := .int) (by decide)
      refine dup P at_116 rfl (n := 117) rfl ?_
      refine callN P at_117 (a := b12) (argsL := []) (rest := [(.ref b12)]) (c_init l Z a0 hw b12 h13 n0 P.low E_b12 F_b12_slots F_b12_hashes F_b12_size lo_b12) rfl (hw _ (List.mem_of_getElem? (i := 3) rfl)) (hw _ (List.mem_of_getElem? (i := 4) rfl)) (hw _ (List.mem_of_getElem? (i := 2) rfl)) (hw _ (List.mem_of_getElem? (i := 5) rfl)) (by decide) pd_2 rfl rfl rfl ⟨by decide, Nat.le_of_ble_eq_true rfl, by decide, by decide⟩ (n := 120) rfl ?_
      rintro T h16 v P ⟨rfl, sa, ha, ⟨E_a, F_s, F_h, F_z, A_s, A_h⟩, n1, n2, n3, l2, l3⟩
      show Jvm.Own.Ends p e below s room_1 n0 (fun v _ => v = some (.int 1)) T (mkF m 120 #[.val (.int sl), .val (.int ly), .val (.long q1), .second, .val (.long q2), .second, .val (.long q3), .second, .val (.long qx), .second, .val (.int z1), .val (.int z2), .val (.int z8), .val (.int z10), .val (.int ac), .val (.int z11), .val (.long hh), .second, .unset, .unset] [(.ref b12)])
      refine astore P at_120 rfl (l' := #[.val (.int sl), .val (.int ly), .val (.long q1), .second, .val (.long q2), .second, .val (.long q3), .second, .val (.long qx), .second, .val (.int z1), .val (.int z2), .val (.int z8), .val (.int z10), .val (.int ac), .val (.int z11), .val (.long hh), .second, .val (.ref b12), .unset]) rfl (n := 122) rfl ?_
      refine aload P at_122 rfl rfl (n := 124) rfl ?_
      refine iload P at_124 rfl (n := 126) rfl ?_
      refine lloadN P at_126 rfl (n := 127) rfl ?_
      refine callV P at_127 (a := b12) (argsL := [(.int z2), (.long q1)]) (rest := []) (c_add l Z a0 hw b12 z2 q1 sa ha (0 : Int32) (fun _ => (0 : Int32)) (fun _ => (0 : Int64)) 0 h16 n0 P.low E_a F_s F_h F_z A_s A_h n1 n2 n3 lo_b12 l2 l3 ⟨rfl, by decide⟩ ⟨by omega, by omega⟩) E_a (hw _ (List.mem_of_getElem? (i := 15) rfl)) (hw _ (List.mem_of_getElem? (i := 16) rfl)) (notFace_of_selects (args := #[]) (mvT P.hZ (hw _ (List.mem_of_getElem? (i := 18) rfl)))) (hw _ (List.mem_of_getElem? (i := 18) rfl)) (hw _ (List.mem_of_getElem? (i := 17) rfl)) (hw _ (List.mem_of_getElem? (i := 2) rfl)) (hw _ (List.mem_of_getElem? (i := 19) rfl)) (by decide) pd_0 rfl rfl rfl ⟨by decide, Nat.le_of_ble_eq_true rfl, by decide, by decide⟩ (n := 130) rfl ?_
      rintro T h17 v P ⟨r20, y19, y18, rfl, ty19, ty18, E_a, F_s, F_h, F_z, A_s, A_h⟩
      obtain ⟨gs21, egs21⟩ : ∃ g, g = ovr (fun _ => (0 : Int32)) z2.toInt.toNat y19 := ⟨_, rfl⟩
      rw [← egs21] at A_s
      obtain ⟨gh22, egh22⟩ : ∃ g, g = ovr (fun _ => (0 : Int64)) 0 q1 := ⟨_, rfl⟩
      rw [← egh22] at A_h
      show Jvm.Own.Ends p e below s room_1 n0 (fun v _ => v = some (.int 1)) T (mkF m 130 #[.val (.int sl), .val (.int ly), .val (.long q1), .second, .val (.long q2), .second, .val (.long q3), .second, .val (.long qx), .second, .val (.int z1), .val (.int z2), .val (.int z8), .val (.int z10), .val (.int ac), .val (.int z11), .val (.long hh), .second, .val (.ref b12), .unset] [(.int r20)])
      refine popV P at_130 rfl (n := 131) rfl ?_
      refine aload P at_131 rfl rfl (n := 133) rfl ?_
      refine iload P at_133 rfl (n := 135) rfl ?_
      refine lload P at_135 rfl (n := 137) rfl ?_
      refine callV P at_137 (a := b12) (argsL := [(.int z8), (.long q2)]) (rest := []) (c_add l Z a0 hw b12 z8 q2 sa ha y18 gs21 gh22 1 h17 n0 P.low E_a F_s F_h F_z A_s A_h n1 n2 n3 lo_b12 l2 l3 ⟨ty18, by decide⟩ ⟨by omega, by omega⟩) E_a (hw _ (List.mem_of_getElem? (i := 15) rfl)) (hw _ (List.mem_of_getElem? (i := 16) rfl)) (notFace_of_selects (args := #[]) (mvT P.hZ (hw _ (List.mem_of_getElem? (i := 18) rfl)))) (hw _ (List.mem_of_getElem? (i := 18) rfl)) (hw _ (List.mem_of_getElem? (i := 17) rfl)) (hw _ (List.mem_of_getElem? (i := 2) rfl)) (hw _ (List.mem_of_getElem? (i := 19) rfl)) (by decide) pd_0 rfl rfl rfl ⟨by decide, Nat.le_of_ble_eq_true rfl, by decide, by decide⟩ (n := 140) rfl ?_
      rintro T h23 v P ⟨r26, y25, y24, rfl, ty25, ty24, E_a, F_s, F_h, F_z, A_s, A_h⟩
      obtain ⟨gs27, egs27⟩ : ∃ g, g = ovr gs21 z8.toInt.toNat y25 := ⟨_, rfl⟩
      rw [← egs27] at A_s
      obtain ⟨gh28, egh28⟩ : ∃ g, g = ovr gh22 1 q2 := ⟨_, rfl⟩
      rw [← egh28] at A_h
      show Jvm.Own.Ends p e below s room_1 n0 (fun v _ => v = some (.int 1)) T (mkF m 140 #[.val (.int sl), .val (.int ly), .val (.long q1), .second, .val (.long q2), .second, .val (.long q3), .second, .val (.long qx), .second, .val (.int z1), .val (.int z2), .val (.int z8), .val (.int z10), .val (.int ac), .val (.int z11), .val (.long hh), .second, .val (.ref b12), .unset] [(.int r26)])
      refine popV P at_140 rfl (n := 141) rfl ?_
      refine iload P at_141 rfl (n := 143) rfl ?_
      refine if0_eq P at_143 (n' := 156) (n := 146) (by decide) rfl (fun hc143 => ?_) (fun hc143 => ?_)
      · -- pc 143 taken
        replace hc143 : ac.toInt = (0 : Int) := hc143
        refine aload P at_156 rfl rfl (n := 158) rfl ?_
        refine iload P at_158 rfl (n := 160) rfl ?_
        refine lload P at_160 rfl (n := 162) rfl ?_
        have key := own_gs0 (A := z2.toInt) (B := z8.toInt) (C := z10.toInt) (AD := ac.toInt) (h3 := q3) egs21 egs27 egh22 egh28 ty19 ty25 (by omega) (by omega) (by omega) (by omega) hh.toInt
        have hgs : ∀ i, i < 16 → 0 ≤ (gs27 i).toInt ∧ (gs27 i).toInt ≤ 8 := fun i _ => (key i).2.2
        have hst3 : ∃ k0 : Nat, k0 ≤ 3 ∧ own_stop gs27 gh28 hh.toInt ((((z1.toInt.toNat + 1) % 16) + k0) % 16) := by
          apply Classical.byContradiction
          intro hno
          have nn : ∀ k0 : Nat, k0 ≤ 3 → ¬ own_stop gs27 gh28 hh.toInt ((((z1.toInt.toNat + 1) % 16) + k0) % 16) := fun k0 h q => hno ⟨k0, h, q⟩
          have c0 : ¬ ((((z1.toInt.toNat + 1) % 16) + 0) % 16 ≠ z2.toInt.toNat ∧ (((z1.toInt.toNat + 1) % 16) + 0) % 16 ≠ z8.toInt.toNat ∧ (((z1.toInt.toNat + 1) % 16) + 0) % 16 ≠ z2.toInt.toNat) := fun q => nn 0 (by decide) ((key _).2.1 q.1 q.2.1 q.2.2)
          have c1 : ¬ ((((z1.toInt.toNat + 1) % 16) + 1) % 16 ≠ z2.toInt.toNat ∧ (((z1.toInt.toNat + 1) % 16) + 1) % 16 ≠ z8.toInt.toNat ∧ (((z1.toInt.toNat + 1) % 16) + 1) % 16 ≠ z2.toInt.toNat) := fun q => nn 1 (by decide) ((key _).2.1 q.1 q.2.1 q.2.2)
          have c2 : ¬ ((((z1.toInt.toNat + 1) % 16) + 2) % 16 ≠ z2.toInt.toNat ∧ (((z1.toInt.toNat + 1) % 16) + 2) % 16 ≠ z8.toInt.toNat ∧ (((z1.toInt.toNat + 1) % 16) + 2) % 16 ≠ z2.toInt.toNat) := fun q => nn 2 (by decide) ((key _).2.1 q.1 q.2.1 q.2.2)
          have c3 : ¬ ((((z1.toInt.toNat + 1) % 16) + 3) % 16 ≠ z2.toInt.toNat ∧ (((z1.toInt.toNat + 1) % 16) + 3) % 16 ≠ z8.toInt.toNat ∧ (((z1.toInt.toNat + 1) % 16) + 3) % 16 ≠ z2.toInt.toNat) := fun q => nn 3 (by decide) ((key _).2.1 q.1 q.2.1 q.2.2)
          omega
        refine callV P at_162 (a := b12) (argsL := [(.int z1), (.long hh)]) (rest := []) (c_next l Z a0 hw b12 z1 hh sa ha y24 gs27 gh28 3 h23 n0 P.low E_a F_s F_h F_z A_s A_h ⟨by omega, by omega⟩ hgs hst3) E_a (hw _ (List.mem_of_getElem? (i := 22) rfl)) (hw _ (List.mem_of_getElem? (i := 23) rfl)) (notFace_of_selects (args := #[]) (mvT P.hZ (hw _ (List.mem_of_getElem? (i := 25) rfl)))) (hw _ (List.mem_of_getElem? (i := 25) rfl)) (hw _ (List.mem_of_getElem? (i := 24) rfl)) (hw _ (List.mem_of_getElem? (i := 2) rfl)) (hw _ (List.mem_of_getElem? (i := 26) rfl)) (by decide) pd_0 rfl rfl rfl ⟨by decide, Nat.le_of_ble_eq_true rfl, by decide, by decide⟩ (n := 165) rfl (RetI.on ?_)
        intro T r29 P hr29
        refine istore P at_165 (l' := #[.val (.int sl), .val (.int ly), .val (.long q1), .second, .val (.long q2), .second, .val (.long q3), .second, .val (.long qx), .second, .val (.int z1), .val (.int z2), .val (.int z8), .val (.int z10), .val (.int ac), .val (.int z11), .val (.long hh), .second, .val (.ref b12), .val (.int r29)]) rfl (n := 167) rfl ?_
        refine iload P at_167 rfl (n := 169) rfl ?_
        refine iload P at_169 rfl (n := 171) rfl ?_
        refine iload P at_171 rfl (n := 173) rfl ?_
        refine iload P at_173 rfl (n := 175) rfl ?_
        refine iload P at_175 rfl (n := 177) rfl ?_
        refine iload P at_177 rfl (n := 179) rfl ?_
        refine lloadN P at_179 rfl (n := 180) rfl ?_
        refine lload P at_180 rfl (n := 182) rfl ?_
        refine lload P at_182 rfl (n := 184) rfl ?_
        refine lload P at_184 rfl (n := 186) rfl ?_
        refine callS P at_186 (argsL := [(.int z1), (.int z2), (.int z8), (.int z10), (.int ac), (.long q1), (.long q2), (.long q3), (.long hh)]) (rest := [(.int r29)]) (c_exp l Z a0 hw z1 z2 z8 z10 ac q1 q2 q3 hh h23 n0 P.low (by omega) (by omega)) (hw _ (List.mem_of_getElem? (i := 31) rfl)) (hw _ (List.mem_of_getElem? (i := 32) rfl)) (hw _ (List.mem_of_getElem? (i := 33) rfl)) (hw _ (List.mem_of_getElem? (i := 34) rfl)) (by decide) pd_3 rfl rfl rfl ⟨by decide, Nat.le_of_ble_eq_true rfl, by decide, by decide⟩ (n := 189) rfl (RetI.on ?_)
        intro T r30 P hr30
        refine icmp_ne P at_189 (n' := 196) (n := 192) (by decide) rfl (fun hc189 => ?_) (fun hc189 => ?_)
        · -- pc 189 taken
          exfalso
          obtain ⟨k9, hk9, e9, f9⟩ := hr29
          obtain ⟨k8, hk8, e8, f8, g8⟩ := hr30
          have := own_same (q := fun t => own_S t z2.toInt z8.toInt z10.toInt ac.toInt q1.toInt q2.toInt q3.toInt hh.toInt) (fun i => (key i).1) hst3 f9 hk8 f8 g8
          subst this
          omega
        · -- pc 189 not taken
          refine iconst P at_192 (x := (1 : Int32)) rfl (n := 193) rfl ?_
          refine goto P at_193 (n := 197) (by decide) ?_
          refine retZ P at_197 (by decide) (by decide) (by decide) ?_
          exact rfl
      · -- pc 143 not taken
        replace hc143 : ¬ ac.toInt = (0 : Int) := hc143
        refine aload P at_146 rfl rfl (n := 148) rfl ?_
        refine iload P at_148 rfl (n := 150) rfl ?_
        refine lload P at_150 rfl (n := 152) rfl ?_
        refine callV P at_152 (a := b12) (argsL := [(.int z10), (.long q3)]) (rest := []) (c_add l Z a0 hw b12 z10 q3 sa ha y24 gs27 gh28 2 h23 n0 P.low E_a F_s F_h F_z A_s A_h n1 n2 n3 lo_b12 l2 l3 ⟨ty24, by decide⟩ ⟨by omega, by omega⟩) E_a (hw _ (List.mem_of_getElem? (i := 15) rfl)) (hw _ (List.mem_of_getElem? (i := 16) rfl)) (notFace_of_selects (args := #[]) (mvT P.hZ (hw _ (List.mem_of_getElem? (i := 18) rfl)))) (hw _ (List.mem_of_getElem? (i := 18) rfl)) (hw _ (List.mem_of_getElem? (i := 17) rfl)) (hw _ (List.mem_of_getElem? (i := 2) rfl)) (hw _ (List.mem_of_getElem? (i := 19) rfl)) (by decide) pd_0 rfl rfl rfl ⟨by decide, Nat.le_of_ble_eq_true rfl, by decide, by decide⟩ (n := 155) rfl ?_
        rintro T h31 v P ⟨r34, y33, y32, rfl, ty33, ty32, E_a, F_s, F_h, F_z, A_s, A_h⟩
        obtain ⟨gs35, egs35⟩ : ∃ g, g = ovr gs27 z10.toInt.toNat y33 := ⟨_, rfl⟩
        rw [← egs35] at A_s
        obtain ⟨gh36, egh36⟩ : ∃ g, g = ovr gh28 2 q3 := ⟨_, rfl⟩
        rw [← egh36] at A_h
        show Jvm.Own.Ends p e below s room_1 n0 (fun v _ => v = some (.int 1)) T (mkF m 155 #[.val (.int sl), .val (.int ly), .val (.long q1), .second, .val (.long q2), .second, .val (.long q3), .second, .val (.long qx), .second, .val (.int z1), .val (.int z2), .val (.int z8), .val (.int z10), .val (.int ac), .val (.int z11), .val (.long hh), .second, .val (.ref b12), .unset] [(.int r34)])
        refine popV P at_155 rfl (n := 156) rfl ?_
        refine aload P at_156 rfl rfl (n := 158) rfl ?_
        refine iload P at_158 rfl (n := 160) rfl ?_
        refine lload P at_160 rfl (n := 162) rfl ?_
        have key := own_gs (A := z2.toInt) (B := z8.toInt) (C := z10.toInt) (AD := ac.toInt) egs21 egs27 egs35 egh22 egh28 egh36 ty19 ty25 ty33 (by omega) (by omega) (by omega) (by omega) (by omega) (by omega) (by omega) hh.toInt
        have hgs : ∀ i, i < 16 → 0 ≤ (gs35 i).toInt ∧ (gs35 i).toInt ≤ 8 := fun i _ => (key i).2.2
        have hst3 : ∃ k0 : Nat, k0 ≤ 3 ∧ own_stop gs35 gh36 hh.toInt ((((z1.toInt.toNat + 1) % 16) + k0) % 16) := by
          apply Classical.byContradiction
          intro hno
          have nn : ∀ k0 : Nat, k0 ≤ 3 → ¬ own_stop gs35 gh36 hh.toInt ((((z1.toInt.toNat + 1) % 16) + k0) % 16) := fun k0 h q => hno ⟨k0, h, q⟩
          have c0 : ¬ ((((z1.toInt.toNat + 1) % 16) + 0) % 16 ≠ z2.toInt.toNat ∧ (((z1.toInt.toNat + 1) % 16) + 0) % 16 ≠ z8.toInt.toNat ∧ (((z1.toInt.toNat + 1) % 16) + 0) % 16 ≠ z10.toInt.toNat) := fun q => nn 0 (by decide) ((key _).2.1 q.1 q.2.1 q.2.2)
          have c1 : ¬ ((((z1.toInt.toNat + 1) % 16) + 1) % 16 ≠ z2.toInt.toNat ∧ (((z1.toInt.toNat + 1) % 16) + 1) % 16 ≠ z8.toInt.toNat ∧ (((z1.toInt.toNat + 1) % 16) + 1) % 16 ≠ z10.toInt.toNat) := fun q => nn 1 (by decide) ((key _).2.1 q.1 q.2.1 q.2.2)
          have c2 : ¬ ((((z1.toInt.toNat + 1) % 16) + 2) % 16 ≠ z2.toInt.toNat ∧ (((z1.toInt.toNat + 1) % 16) + 2) % 16 ≠ z8.toInt.toNat ∧ (((z1.toInt.toNat + 1) % 16) + 2) % 16 ≠ z10.toInt.toNat) := fun q => nn 2 (by decide) ((key _).2.1 q.1 q.2.1 q.2.2)
          have c3 : ¬ ((((z1.toInt.toNat + 1) % 16) + 3) % 16 ≠ z2.toInt.toNat ∧ (((z1.toInt.toNat + 1) % 16) + 3) % 16 ≠ z8.toInt.toNat ∧ (((z1.toInt.toNat + 1) % 16) + 3) % 16 ≠ z10.toInt.toNat) := fun q => nn 3 (by decide) ((key _).2.1 q.1 q.2.1 q.2.2)
          omega
        refine callV P at_162 (a := b12) (argsL := [(.int z1), (.long hh)]) (rest := []) (c_next l Z a0 hw b12 z1 hh sa ha y32 gs35 gh36 3 h31 n0 P.low E_a F_s F_h F_z A_s A_h ⟨by omega, by omega⟩ hgs hst3) E_a (hw _ (List.mem_of_getElem? (i := 22) rfl)) (hw _ (List.mem_of_getElem? (i := 23) rfl)) (notFace_of_selects (args := #[]) (mvT P.hZ (hw _ (List.mem_of_getElem? (i := 25) rfl)))) (hw _ (List.mem_of_getElem? (i := 25) rfl)) (hw _ (List.mem_of_getElem? (i := 24) rfl)) (hw _ (List.mem_of_getElem? (i := 2) rfl)) (hw _ (List.mem_of_getElem? (i := 26) rfl)) (by decide) pd_0 rfl rfl rfl ⟨by decide, Nat.le_of_ble_eq_true rfl, by decide, by decide⟩ (n := 165) rfl (RetI.on ?_)
        intro T r37 P hr37
        refine istore P at_165 (l' := #[.val (.int sl), .val (.int ly), .val (.long q1), .second, .val (.long q2), .second, .val (.long q3), .second, .val (.long qx), .second, .val (.int z1), .val (.int z2), .val (.int z8), .val (.int z10), .val (.int ac), .val (.int z11), .val (.long hh), .second, .val (.ref b12), .val (.int r37)]) rfl (n := 167) rfl ?_
        refine iload P at_167 rfl (n := 169) rfl ?_
        refine iload P at_169 rfl (n := 171) rfl ?_
        refine iload P at_171 rfl (n := 173) rfl ?_
        refine iload P at_173 rfl (n := 175) rfl ?_
        refine iload P at_175 rfl (n := 177) rfl ?_
        refine iload P at_177 rfl (n := 179) rfl ?_
        refine lloadN P at_179 rfl (n := 180) rfl ?_
        refine lload P at_180 rfl (n := 182) rfl ?_
        refine lload P at_182 rfl (n := 184) rfl ?_
        refine lload P at_184 rfl (n := 186) rfl ?_
        refine callS P at_186 (argsL := [(.int z1), (.int z2), (.int z8), (.int z10), (.int ac), (.long q1), (.long q2), (.long q3), (.long hh)]) (rest := [(.int r37)]) (c_exp l Z a0 hw z1 z2 z8 z10 ac q1 q2 q3 hh h31 n0 P.low (by omega) (by omega)) (hw _ (List.mem_of_getElem? (i := 31) rfl)) (hw _ (List.mem_of_getElem? (i := 32) rfl)) (hw _ (List.mem_of_getElem? (i := 33) rfl)) (hw _ (List.mem_of_getElem? (i := 34) rfl)) (by decide) pd_3 rfl rfl rfl ⟨by decide, Nat.le_of_ble_eq_true rfl, by decide, by decide⟩ (n := 189) rfl (RetI.on ?_)
        intro T r38 P hr38
        refine icmp_ne P at_189 (n' := 196) (n := 192) (by decide) rfl (fun hc189 => ?_) (fun hc189 => ?_)
        · -- pc 189 taken
          exfalso
          obtain ⟨k9, hk9, e9, f9⟩ := hr37
          obtain ⟨k8, hk8, e8, f8, g8⟩ := hr38
          have := own_same (q := fun t => own_S t z2.toInt z8.toInt z10.toInt ac.toInt q1.toInt q2.toInt q3.toInt hh.toInt) (fun i => (key i).1) hst3 f9 hk8 f8 g8
          subst this
          omega
        · -- pc 189 not taken
          refine iconst P at_192 (x := (1 : Int32)) rfl (n := 193) rfl ?_
          refine goto P at_193 (n := 197) (by decide) ?_
          refine retZ P at_197 (by decide) (by decide) (by decide) ?_
          exact rfl
    refine iload P at_78 rfl (n := 80) rfl ?_
    refine if0_ne P at_80 (n' := 87) (n := 83) (by decide) rfl (fun hc80 => ?_) (fun hc80 => ?_)
    · -- pc 80 taken
      replace hc80 : ¬ z11.toInt = (0 : Int) := hc80
      refine iload P at_87 rfl (n := 89) rfl ?_
      refine iconst P at_89 (x := (1 : Int32)) rfl (n := 90) rfl ?_
      refine icmp_ne P at_90 (n' := 98) (n := 93) (by decide) rfl (fun hc90 => ?_) (fun hc90 => ?_)
      · -- pc 90 taken
        replace hc90 : ¬ z11.toInt = (1 : Int) := hc90
        refine iload P at_98 rfl (n := 100) rfl ?_
        refine iconst P at_100 (x := (2 : Int32)) rfl (n := 101) rfl ?_
        refine icmp_ne P at_101 (n' := 109) (n := 104) (by decide) rfl (fun hc101 => ?_) (fun hc101 => ?_)
        · -- pc 101 taken
          replace hc101 : ¬ z11.toInt = (2 : Int) := hc101
          refine lload P at_109 rfl (n := 111) rfl ?_
          exact J2 _
        · -- pc 101 not taken
          replace hc101 : z11.toInt = (2 : Int) := hc101
          refine lload P at_104 rfl (n := 106) rfl ?_
          refine goto P at_106 (n := 111) (by decide) ?_
          exact J2 _
      · -- pc 90 not taken
        replace hc90 : z11.toInt = (1 : Int) := hc90
        refine lload P at_93 rfl (n := 95) rfl ?_
        refine goto P at_95 (n := 111) (by decide) ?_
        exact J2 _
    · -- pc 80 not taken
      replace hc80 : z11.toInt = (0 : Int) := hc80
      refine lloadN P at_83 rfl (n := 84) rfl ?_
      refine goto P at_84 (n := 111) (by decide) ?_
      exact J2 _
  refine iloadN P at_40 rfl (n := 41) rfl ?_
  refine bipush P at_41 (x := (14 : Int32)) rfl (n := 43) rfl ?_
  refine iushr P at_43 (n := 44) rfl ?_
  refine nameI (x := ((ly.toUInt32 >>> ((14 : Int32) &&& 31).toUInt32).toInt32)) (F := fun z39 => Jvm.Own.Ends p e below s room_1 n0 (fun v _ => v = some (.int 1)) T (mkF m 44 #[.val (.int sl), .val (.int ly), .val (.long q1), .second, .val (.long q2), .second, .val (.long q3), .second, .val (.long qx), .second, .val (.int z1), .val (.int z2), .val (.int z8), .val (.int z10), .unset, .unset, .unset, .unset, .unset, .unset] [(.int z39)])) ?_
  intro z39 hz39
  have tz39 : z39.toInt = (ly.toInt % 4294967296) / 16384 := n_iushr 14 hz39 rfl (by decide)
  refine iconst P at_44 (x := (1 : Int32)) rfl (n := 45) rfl ?_
  refine iand P at_45 (n := 46) rfl ?_
  refine nameI (x := (z39 &&& (1 : Int32))) (F := fun z40 => Jvm.Own.Ends p e below s room_1 n0 (fun v _ => v = some (.int 1)) T (mkF m 46 #[.val (.int sl), .val (.int ly), .val (.long q1), .second, .val (.long q2), .second, .val (.long q3), .second, .val (.long qx), .second, .val (.int z1), .val (.int z2), .val (.int z8), .val (.int z10), .unset, .unset, .unset, .unset, .unset, .unset] [(.int z40)])) ?_
  intro z40 hz40
  have tz40 : z40.toInt = z39.toInt % 2 := n_mask 1 hz40 rfl (by decide)
  refine if0_eq P at_46 (n' := 67) (n := 49) (by decide) rfl (fun hc46 => ?_) (fun hc46 => ?_)
  · -- pc 46 taken
    replace hc46 : z40.toInt = (0 : Int) := hc46
    refine iconst P at_67 (x := (0 : Int32)) rfl (n := 68) rfl ?_
    refine istore P at_68 (l' := #[.val (.int sl), .val (.int ly), .val (.long q1), .second, .val (.long q2), .second, .val (.long q3), .second, .val (.long qx), .second, .val (.int z1), .val (.int z2), .val (.int z8), .val (.int z10), .val (.int (0 : Int32)), .unset, .unset, .unset, .unset, .unset]) rfl (n := 70) rfl ?_
    exact J1 (0 : Int32) (Or.inl rfl)
  · -- pc 46 not taken
    replace hc46 : ¬ z40.toInt = (0 : Int) := hc46
    refine iload P at_49 rfl (n := 51) rfl ?_
    refine iload P at_51 rfl (n := 53) rfl ?_
    refine icmp_eq P at_53 (n' := 67) (n := 56) (by decide) rfl (fun hc53 => ?_) (fun hc53 => ?_)
    · -- pc 53 taken
      refine iconst P at_67 (x := (0 : Int32)) rfl (n := 68) rfl ?_
      refine istore P at_68 (l' := #[.val (.int sl), .val (.int ly), .val (.long q1), .second, .val (.long q2), .second, .val (.long q3), .second, .val (.long qx), .second, .val (.int z1), .val (.int z2), .val (.int z8), .val (.int z10), .val (.int (0 : Int32)), .unset, .unset, .unset, .unset, .unset]) rfl (n := 70) rfl ?_
      exact J1 (0 : Int32) (Or.inl rfl)
    · -- pc 53 not taken
      refine iload P at_56 rfl (n := 58) rfl ?_
      refine iload P at_58 rfl (n := 60) rfl ?_
      refine icmp_eq P at_60 (n' := 67) (n := 63) (by decide) rfl (fun hc60 => ?_) (fun hc60 => ?_)
      · -- pc 60 taken
        refine iconst P at_67 (x := (0 : Int32)) rfl (n := 68) rfl ?_
        refine istore P at_68 (l' := #[.val (.int sl), .val (.int ly), .val (.long q1), .second, .val (.long q2), .second, .val (.long q3), .second, .val (.long qx), .second, .val (.int z1), .val (.int z2), .val (.int z8), .val (.int z10), .val (.int (0 : Int32)), .unset, .unset, .unset, .unset, .unset]) rfl (n := 70) rfl ?_
        exact J1 (0 : Int32) (Or.inl rfl)
      · -- pc 60 not taken
        refine iconst P at_63 (x := (1 : Int32)) rfl (n := 64) rfl ?_
        refine goto P at_64 (n := 68) (by decide) ?_
        refine istore P at_68 (l' := #[.val (.int sl), .val (.int ly), .val (.long q1), .second, .val (.long q2), .second, .val (.long q3), .second, .val (.long qx), .second, .val (.int z1), .val (.int z2), .val (.int z8), .val (.int z10), .val (.int (1 : Int32)), .unset, .unset, .unset, .unset, .unset]) rfl (n := 70) rfl ?_
        exact J1 (1 : Int32) (Or.inr ⟨rfl, by omega, by omega⟩)
set_option maxRecDepth 65536 in
set_option maxHeartbeats 40000000 in
theorem comes_1 {Post : Tables → Env → Array Value → State → Outcome → State → Prop} (hpost : ∀ tb e args s v u, (limb_1_1.after args s (.returned v) u = true ∧ limb_1_2.after args s (.returned v) u = true ∧ True) → FrameEnd s (.returned v) u (Jvm.fieldLocs frame_1_writes args s ++ Jvm.arrayLocs frame_1_arrays args s ++ Jvm.staticLocs frame_1_statics s) 16 128 → Post tb e args s (.returned v) u) :
    ArmFor flags0 classFile x code maxLocals ret World_1 tables_1 room_1 Calls_1 rest_1 Pre_1 Post := by
  intro l hfl _ _ p e ha hc hk s m args below hf hA hF happ hP
  obtain ⟨hcalls, hrest, hpre⟩ := hP
  obtain ⟨-, -, -, hnamed, -, -, -, hat⟩ := (Spec.applies_iff hf).mp happ
  obtain ⟨hg, hn⟩ := and_e (Cond.before_iff.mp (show (Jvm.Cond.and given_1 narrow_1).before args s = true from hpre))
  obtain ⟨q0, g0⟩ := and_e hg
  obtain ⟨w0, w1, w2, w3, w4, w5, rfl⟩ : ∃ w0 w1 w2 w3 w4 w5 : Value, args = #[w0, w1, w2, w3, w4, w5] := by
    have hs : args.size = 6 := by simpa [Cond.value, given_1] using q0
    obtain ⟨L⟩ := args
    match L, hs with
    | [w0, w1, w2, w3, w4, w5], _ => exact ⟨w0, w1, w2, w3, w4, w5, rfl⟩
  have hw := fun d (hd : d ∈ tables_1) => atoms_spec (ws := Jvm.Cond.code x code maxLocals ret :: tables_1) hat d (List.mem_cons_of_mem _ hd)
  obtain ⟨q1, g1⟩ := and_e g0
  obtain ⟨i0, e0⟩ := is_v q1
  obtain rfl : w0 = (.int i0) := Option.some.inj e0
  obtain ⟨q2, g2⟩ := and_e g1
  obtain ⟨i1, e1⟩ := is_v q2
  obtain rfl : w1 = (.int i1) := Option.some.inj e1
  obtain ⟨q3, g3⟩ := and_e g2
  obtain ⟨i2, e2⟩ := isL_v q3
  obtain rfl : w2 = (.long i2) := Option.some.inj e2
  obtain ⟨q4, g4⟩ := and_e g3
  obtain ⟨i3, e3⟩ := isL_v q4
  obtain rfl : w3 = (.long i3) := Option.some.inj e3
  obtain ⟨q5, g5⟩ := and_e g4
  obtain ⟨i4, e4⟩ := isL_v q5
  obtain rfl : w4 = (.long i4) := Option.some.inj e4
  have q6 := g5
  obtain ⟨i5, e5⟩ := isL_v q6
  obtain rfl : w5 = (.long i5) := Option.some.inj e5
  obtain ⟨n, o, h1, h2, h3, _, L, rfl, ⟨rfl, N⟩, hq⟩ := rm_law l s _ hw i0 i1 i2 i3 i4 i5 s.heap s.heap.size (Nat.le_refl _)  tables_1 p e ha hc hk s m _ below hf ((Spec.applies_iff_loose hf).mp happ).1 ⟨rfl, State.Warmed39.refl s, rfl⟩ trivial
  refine ⟨n, _, h1, h2, h3, hpost _ _ _ _ _ _ ⟨Cond.after_iff.mpr rfl, Cond.after_iff.mpr (eq_i res_at (Term.int_eval (1)) rfl), trivial⟩ ⟨hq.1, hq.2.1, (hq.2.2.sift fun y hy => Or.inr (N y hy)).mono (by decide) (by decide)⟩⟩
theorem main_1_1 : Claimed_1_1 := comes_1 fun _ _ _ _ _ _ h hF => ⟨h.1, hF⟩
theorem main_1_2 : Claimed_1_2 := comes_1 fun _ _ _ _ _ _ h hF => ⟨h.2.1, hF⟩
end Jvm.Pilot.@@N@@
namespace Jvm.Pilot.@@N@@
open Jvm Jvm.ClassFile Sem Op Lib Jvm.Free Jvm.Stand Jvm.Pilot.@@N@@.Jvm.D
/-! MADE BY PROGRAM (witnessworld.py) out of the Statement's table words and the real class files: 11 classes; the members and pool entries that the words name. The judged class is class 1, her method 1. -/
namespace start1
open Jvm.ClassFile
def u (s : String) : CpInfo := .utf8 (stringToUtf16 s)
/-- a pool by its gaps: so many unusable entries, then the entry; so many at the end -/
def gap : Nat → List CpInfo → List CpInfo
  | 0, r => r
  | n + 1, r => .unusable :: gap n r
def poolList (es : List (Nat × CpInfo)) (last : Nat) : List CpInfo := es.foldr (fun e r => gap e.1 (e.2 :: r)) (gap last [])
def pool (es : List (Nat × CpInfo)) (last : Nat) : Array CpInfo := ⟨poolList es last⟩
def fileOf (pool : Array CpInfo) (this : Nat) (attrs : Array Attribute := #[]) (ms : Array MethodInfo := #[]) (fl : Nat := 33) (sup : Nat := 0) (ifs : Array Nat := #[]) (fds : Array FieldInfo := #[]) : ClassFile where
  minorVersion := 0
  majorVersion := 65
  constantPool := pool
  accessFlags := fl
  thisClass := this
  superClass := sup
  interfaces := ifs
  fields := fds
  methods := ms
  attributes := attrs
def plain (name : String) (sup : Option ClassId) : Class where
  name := name
  kind := .ordinary
  loader := none
  accessFlags := 33
  super := sup
  interfaces := #[]
  cf := none
  fields := #[]
  methods := #[]
  instanceTypes := #[]
  staticTypes := #[]
  resolved := #[]
  callSites := []
  init := .initialized
  statics := none
  mirror := none

def pool0 : Array CpInfo := pool [(5, u "<init>"), (0, u "()V"), (1, .class_ 10), (1, u "java/lang/Object")] 113

def k0c0 : Code := { maxStack := 0, maxLocals := 1, code := object_method_1_code, exceptionTable := #[], attributes := #[] }
def k0m0 : Method := { name := "<init>", desc := "()V", sig := { parameters := [], returnType := none }, accessFlags := 1, code := some k0c0 }
/-- java/lang/Object -/
def k0 : Class := { plain "java/lang/Object" none with
  accessFlags := 33
  interfaces := #[]
  cf := some (fileOf pool0 8 #[] #[{ accessFlags := 1, nameIndex := 5, descriptorIndex := 6, attributes := #[] }] 33 0 #[] #[])
  fields := #[]
  methods := #[k0m0]
  instanceTypes := #[]
  staticTypes := #[]
  resolved := Array.replicate 124 none
  statics := none }

def pool1 : Array CpInfo := pool [(2, .class_ 4), (0, .nameAndType 5 6), (0, u "java/lang/Object"), (0, u "<init>"), (0, u "()V"), (0, .class_ 8), (0, u "com/example/vestbook/vestbook/PlaceTable"), (0, .methodref 7 3), (0, .methodref 7 11), (0, .nameAndType 12 13), (0, u "add"), (0, u "(IJ)I"), (0, .methodref 7 15), (0, .nameAndType 16 13), (0, u "nextSlot"), (0, .methodref 18 19), (0, .class_ 20), (0, .nameAndType 21 22), (0, u "com/example/vestbook/vestbook/PlaceTableNextSlotPinLaw"), (0, u "expected"), (0, u "(IIIIZJJJJ)I"), (0, .methodref 18 24), (0, .nameAndType 25 26), (0, u "stops"), (0, u "(IIIIZJJJJ)Z"), (2, u "law"), (0, u "(IIJJJJ)Z")] 3

def k1m0 : Method := { name := "<init>", desc := "()V", sig := { parameters := [], returnType := none }, accessFlags := 1, code := none }
def k1c1 : Code := { maxStack := 14, maxLocals := 20, code := code, exceptionTable := #[], attributes := #[] }
def k1m1 : Method := { name := "law", desc := "(IIJJJJ)Z", sig := { parameters := [.int, .int, .long, .long, .long, .long], returnType := some .boolean }, accessFlags := 9, code := some k1c1 }
def k1c2 : Code := { maxStack := 4, maxLocals := 13, code := method_3_code, exceptionTable := #[], attributes := #[] }
def k1m2 : Method := { name := "stops", desc := "(IIIIZJJJJ)Z", sig := { parameters := [.int, .int, .int, .int, .boolean, .long, .long, .long, .long], returnType := some .boolean }, accessFlags := 10, code := some k1c2 }
def k1c3 : Code := { maxStack := 13, maxLocals := 16, code := method_4_code, exceptionTable := #[], attributes := #[] }
def k1m3 : Method := { name := "expected", desc := "(IIIIZJJJJ)I", sig := { parameters := [.int, .int, .int, .int, .boolean, .long, .long, .long, .long], returnType := some .int }, accessFlags := 10, code := some k1c3 }
/-- com/example/vestbook/vestbook/PlaceTableNextSlotPinLaw -/
def k1 : Class := { plain "com/example/vestbook/vestbook/PlaceTableNextSlotPinLaw" (some 0) with
  accessFlags := 49
  interfaces := #[]
  cf := some (fileOf pool1 18 #[] #[{ accessFlags := 1, nameIndex := 5, descriptorIndex := 6, attributes := #[] }, { accessFlags := 9, nameIndex := 29, descriptorIndex := 30, attributes := #[] }, { accessFlags := 10, nameIndex := 25, descriptorIndex := 26, attributes := #[] }, { accessFlags := 10, nameIndex := 21, descriptorIndex := 22, attributes := #[] }] 49 2 #[] #[])
  fields := #[]
  methods := #[k1m0, k1m1, k1m2, k1m3]
  instanceTypes := #[]
  staticTypes := #[]
  resolved := Array.replicate 34 none
  statics := none }

def pool2 : Array CpInfo := pool [(1, .methodref 2 3), (0, .class_ 4), (0, .nameAndType 5 6), (0, u "java/lang/Object"), (0, u "<init>"), (0, u "()V"), (0, .fieldref 8 9), (0, .class_ 10), (0, .nameAndType 11 12), (0, u "com/example/vestbook/vestbook/PlaceTable"), (0, u "slots"), (0, u "[I"), (0, .fieldref 8 14), (0, .nameAndType 15 16), (0, u "hashes"), (0, u "[J"), (4, .methodref 8 22), (0, .nameAndType 23 24), (0, u "walk"), (0, u "(IJ)I"), (0, .fieldref 8 26), (0, .nameAndType 27 28), (0, u "size"), (0, u "I"), (11, u "MULTIPLIER"), (0, u "J"), (10, u "UNITS"), (0, u "Ljava/lang/invoke/VarHandle;"), (34, u "POINT"), (34, u "PRIME"), (4, u "nextSlot"), (2, u "add")] 7

def k2c0 : Code := { maxStack := 2, maxLocals := 1, code := prog_68_method_1_code, exceptionTable := #[], attributes := #[] }
def k2m0 : Method := { name := "<init>", desc := "()V", sig := { parameters := [], returnType := none }, accessFlags := 0, code := some k2c0 }
def k2c1 : Code := { maxStack := 4, maxLocals := 4, code := prog_68_method_3_code, exceptionTable := #[], attributes := #[] }
def k2m1 : Method := { name := "nextSlot", desc := "(IJ)I", sig := { parameters := [.int, .long], returnType := some .int }, accessFlags := 0, code := some k2c1 }
def k2c2 : Code := { maxStack := 4, maxLocals := 5, code := prog_68_method_5_code, exceptionTable := #[], attributes := #[] }
def k2m2 : Method := { name := "add", desc := "(IJ)I", sig := { parameters := [.int, .long], returnType := some .int }, accessFlags := 0, code := some k2c2 }
def k2c3 : Code := { maxStack := 4, maxLocals := 5, code := prog_68_method_6_code, exceptionTable := #[], attributes := #[] }
def k2m3 : Method := { name := "walk", desc := "(IJ)I", sig := { parameters := [.int, .long], returnType := some .int }, accessFlags := 2, code := some k2c3 }
/-- com/example/vestbook/vestbook/PlaceTable -/
def k2 : Class := { plain "com/example/vestbook/vestbook/PlaceTable" (some 0) with
  accessFlags := 48
  interfaces := #[]
  cf := some (fileOf pool2 8 #[] #[{ accessFlags := 0, nameIndex := 5, descriptorIndex := 6, attributes := #[] }, { accessFlags := 0, nameIndex := 128, descriptorIndex := 24, attributes := #[] }, { accessFlags := 0, nameIndex := 131, descriptorIndex := 24, attributes := #[] }, { accessFlags := 2, nameIndex := 23, descriptorIndex := 24, attributes := #[] }] 48 2 #[] #[{ accessFlags := 26, nameIndex := 123, descriptorIndex := 41, attributes := #[] }, { accessFlags := 26, nameIndex := 88, descriptorIndex := 41, attributes := #[] }, { accessFlags := 26, nameIndex := 40, descriptorIndex := 41, attributes := #[] }, { accessFlags := 26, nameIndex := 52, descriptorIndex := 53, attributes := #[] }, { accessFlags := 2, nameIndex := 11, descriptorIndex := 12, attributes := #[] }, { accessFlags := 2, nameIndex := 15, descriptorIndex := 16, attributes := #[] }, { accessFlags := 2, nameIndex := 27, descriptorIndex := 28, attributes := #[] }])
  fields := #[{ name := "PRIME", type := .long, accessFlags := 26, slot := 0, constantValue := 0 }, { name := "POINT", type := .long, accessFlags := 26, slot := 1, constantValue := 0 }, { name := "MULTIPLIER", type := .long, accessFlags := 26, slot := 2, constantValue := 0 }, { name := "UNITS", type := (.object "java/lang/invoke/VarHandle"), accessFlags := 26, slot := 3, constantValue := 0 }, { name := "slots", type := (.array .int), accessFlags := 2, slot := 0, constantValue := 0 }, { name := "hashes", type := (.array .long), accessFlags := 2, slot := 1, constantValue := 0 }, { name := "size", type := .int, accessFlags := 2, slot := 2, constantValue := 0 }]
  methods := #[k2m0, k2m1, k2m2, k2m3]
  instanceTypes := #[(.array .int), (.array .long), .int]
  staticTypes := #[.long, .long, .long, (.object "java/lang/invoke/VarHandle")]
  resolved := Array.replicate 139 none
  statics := none }

def pool3 : Array CpInfo := pool [(1, u "java/lang/Cloneable"), (0, .class_ 1), (0, u "java/lang/Object"), (0, .class_ 3)] 3

/-- java/lang/Cloneable -/
def k3 : Class := { plain "java/lang/Cloneable" (some 0) with
  accessFlags := 1537
  interfaces := #[]
  cf := some (fileOf pool3 2 #[] #[] 1537 4 #[] #[])
  fields := #[]
  methods := #[]
  instanceTypes := #[]
  staticTypes := #[]
  resolved := Array.replicate 8 none
  statics := none }

def pool4 : Array CpInfo := pool [(1, u "java/io/Serializable"), (0, .class_ 1), (0, u "java/lang/Object"), (0, .class_ 3)] 3

/-- java/io/Serializable -/
def k4 : Class := { plain "java/io/Serializable" (some 0) with
  accessFlags := 1537
  interfaces := #[]
  cf := some (fileOf pool4 2 #[] #[] 1537 4 #[] #[])
  fields := #[]
  methods := #[]
  instanceTypes := #[]
  staticTypes := #[]
  resolved := Array.replicate 8 none
  statics := none }

/-- the primitive byte -/
def k5 : Class := { plain "byte" none with kind := .primitive 'B', accessFlags := 0x411 }
/-- [B -/
def k6 : Class := { plain "[B" (some 0) with kind := .array 5 .byte, interfaces := #[3, 4], accessFlags := 1041 }

/-- the primitive int -/
def k7 : Class := { plain "int" none with kind := .primitive 'I', accessFlags := 0x411 }
/-- [I -/
def k8 : Class := { plain "[I" (some 0) with kind := .array 7 .int, interfaces := #[3, 4], accessFlags := 1041 }

/-- the primitive long -/
def k9 : Class := { plain "long" none with kind := .primitive 'J', accessFlags := 0x411 }
/-- [J -/
def k10 : Class := { plain "[J" (some 0) with kind := .array 9 .long, interfaces := #[3, 4], accessFlags := 1041 }

def heap : Heap := #[]
def classes : Array Class := #[k0, k1, k2, k3, k4, k5, k6, k7, k8, k9, k10]
def interned : List (Array UInt16 × Addr) := []
def slotsUsed : Nat := 0
def theMethod : MethodId := ⟨1, 1⟩
def args0 : Array Value := #[.int 5, .int 6, .long 1, .long 2, .long 3, .long 4]
def aboutOver (below : List Frame) : State where
  vm := { classes := classes, interned := interned.toArray }
  heap := heap
  slotsUsed := slotsUsed
  threads := #[{ frames := .invoking theMethod args0 :: below }]
def below0 : List Frame := [.native { method := ⟨0, 0⟩, args := #[] }]
def about1 : State := aboutOver below0
def p0 : Program := .bare "" "" ""
def e0 : Env := launch0.env 0 0 0
theorem w_frames : about1.frames = Frame.invoking theMethod args0 :: below0 := rfl
set_option maxRecDepth 65536 in
theorem w_args : argsFit about1.vm theMethod args0 = true := by decide +kernel
set_option maxRecDepth 65536 in
theorem w_heap : heapFits about1 = true := by decide +kernel
set_option maxRecDepth 65536 in
theorem w_runnable : about1.curStatus? = some .runnable := by decide +kernel
set_option maxRecDepth 65536 in
theorem w_alone : about1.alone = true := by decide +kernel
set_option maxRecDepth 65536 in
theorem w_named : about1.methodNamed? x = some theMethod := by decide +kernel
set_option maxRecDepth 65536 in
theorem w_hears : about1.hears theMethod below0 = true := by decide +kernel
set_option maxRecDepth 65536 in
theorem w_ripe : about1.ripe theMethod args0 below0 = true := by decide +kernel
theorem w_running : about1.status = .running := rfl
set_option maxRecDepth 65536 in
theorem w_room : about1.hasRoom e0.platform room_1 = true :=
  launch0.hasRoom_least _ room_1 (by decide +kernel) (by decide +kernel) (by decide +kernel) (by decide +kernel) (by decide +kernel) (by decide +kernel)
theorem allAtoms_all (ts : List Jvm.Cond) (a : Array Jvm.Value) (st : Jvm.State) : (allAtoms ts).before a st = ts.all (fun c => c.before a st) := by
  induction ts with
  | nil => rfl
  | cons c t ih =>
    show (Jvm.Cond.and c (allAtoms t)).before a st = _
    rw [Jvm.Cond.before_and, ih, List.all_cons]
def words1 : List Jvm.Cond := Jvm.Cond.code x code maxLocals ret :: tables_1
/-- a 'code' word, met by the world's own term for the bytes: nothing is compared byte by byte -/
theorem code_word {y : MethodName} {bytes : ByteArray} {mx : Nat} {rt : Option FieldType} {a : Array Value} {s : State} {m : MethodId} {meth : Method} {c : Code} (h1 : s.methodNamed? y = some m) (h2 : s.vm.method? m = some meth) (h3 : meth.code = some c) (h4 : c.code = bytes)
    (h5 : (c.maxLocals == mx && c.exceptionTable.isEmpty && decide (c.maxStack ≤ mostOperands) && decide (meth.sig.returnType = rt) && !meth.locks && decide (parseMethodDescriptor y.desc = some meth.sig)) = true) : (Jvm.Cond.code y bytes mx rt).before a s = true := by
  simp only [Bool.and_eq_true, beq_iff_eq, Bool.not_eq_true', decide_eq_true_eq] at h5
  obtain ⟨⟨⟨⟨⟨g1, g2⟩, g3⟩, g4⟩, g5⟩, g6⟩ := h5
  simp [Cond.before, Cond.holds, Cond.value, h1, h2, h3, h4, g1, g2, g3, g4, g5, g6]
def isCode : Jvm.Cond → Bool
  | .code _ _ _ _ => true
  | _ => false
theorem all_split {L : List Jvm.Cond} {P : Jvm.Cond → Bool} (h1 : L.all (fun c => isCode c || P c) = true) (h2 : ∀ c ∈ L.filter isCode, P c = true) : L.all P = true := by
  refine List.all_eq_true.mpr fun c hc => ?_
  have h := List.all_eq_true.mp h1 c hc
  rcases Bool.eq_false_or_eq_true (isCode c) with hi | hi
  · exact h2 c (List.mem_filter.mpr ⟨hc, hi⟩)
  · simpa [hi] using h
set_option maxRecDepth 65536 in
theorem w_c0 : (Jvm.Cond.code x code maxLocals ret).before args0 about1 = true := code_word (m := ⟨1, 1⟩) (meth := k1m1) (c := k1c1) (by decide +kernel) rfl rfl rfl (by decide +kernel)
set_option maxRecDepth 65536 in
theorem w_c1 : (Jvm.Cond.code ({ cls := "com/example/vestbook/vestbook/PlaceTable", name := "<init>", desc := "()V" } : Jvm.MethodName) prog_68_method_1_code (1 : Nat) (Option.none : Option Jvm.ClassFile.FieldType)).before args0 about1 = true := code_word (m := ⟨2, 0⟩) (meth := k2m0) (c := k2c0) (by decide +kernel) rfl rfl rfl (by decide +kernel)
set_option maxRecDepth 65536 in
theorem w_c2 : (Jvm.Cond.code ({ cls := "java/lang/Object", name := "<init>", desc := "()V" } : Jvm.MethodName) object_method_1_code (1 : Nat) (Option.none : Option Jvm.ClassFile.FieldType)).before args0 about1 = true := code_word (m := ⟨0, 0⟩) (meth := k0m0) (c := k0c0) (by decide +kernel) rfl rfl rfl (by decide +kernel)
set_option maxRecDepth 65536 in
theorem w_c3 : (Jvm.Cond.code ({ cls := "com/example/vestbook/vestbook/PlaceTable", name := "add", desc := "(IJ)I" } : Jvm.MethodName) prog_68_method_5_code (5 : Nat) (Option.some Jvm.ClassFile.FieldType.int)).before args0 about1 = true := code_word (m := ⟨2, 2⟩) (meth := k2m2) (c := k2c2) (by decide +kernel) rfl rfl rfl (by decide +kernel)
set_option maxRecDepth 65536 in
theorem w_c4 : (Jvm.Cond.code ({ cls := "com/example/vestbook/vestbook/PlaceTable", name := "nextSlot", desc := "(IJ)I" } : Jvm.MethodName) prog_68_method_3_code (4 : Nat) (Option.some Jvm.ClassFile.FieldType.int)).before args0 about1 = true := code_word (m := ⟨2, 1⟩) (meth := k2m1) (c := k2c1) (by decide +kernel) rfl rfl rfl (by decide +kernel)
set_option maxRecDepth 65536 in
theorem w_c5 : (Jvm.Cond.code ({ cls := "com/example/vestbook/vestbook/PlaceTable", name := "walk", desc := "(IJ)I" } : Jvm.MethodName) prog_68_method_6_code (5 : Nat) (Option.some Jvm.ClassFile.FieldType.int)).before args0 about1 = true := code_word (m := ⟨2, 3⟩) (meth := k2m3) (c := k2c3) (by decide +kernel) rfl rfl rfl (by decide +kernel)
set_option maxRecDepth 65536 in
theorem w_c6 : (Jvm.Cond.code ({ cls := "com/example/vestbook/vestbook/PlaceTableNextSlotPinLaw", name := "expected", desc := "(IIIIZJJJJ)I" } : Jvm.MethodName) method_4_code (16 : Nat) (Option.some Jvm.ClassFile.FieldType.int)).before args0 about1 = true := code_word (m := ⟨1, 3⟩) (meth := k1m3) (c := k1c3) (by decide +kernel) rfl rfl rfl (by decide +kernel)
set_option maxRecDepth 65536 in
theorem w_c7 : (Jvm.Cond.code ({ cls := "com/example/vestbook/vestbook/PlaceTableNextSlotPinLaw", name := "stops", desc := "(IIIIZJJJJ)Z" } : Jvm.MethodName) method_3_code (13 : Nat) (Option.some Jvm.ClassFile.FieldType.boolean)).before args0 about1 = true := code_word (m := ⟨1, 2⟩) (meth := k1m2) (c := k1c2) (by decide +kernel) rfl rfl rfl (by decide +kernel)
def codes1 : List Jvm.Cond := [Jvm.Cond.code x code maxLocals ret, Jvm.Cond.code ({ cls := "com/example/vestbook/vestbook/PlaceTable", name := "<init>", desc := "()V" } : Jvm.MethodName) prog_68_method_1_code (1 : Nat) (Option.none : Option Jvm.ClassFile.FieldType), Jvm.Cond.code ({ cls := "java/lang/Object", name := "<init>", desc := "()V" } : Jvm.MethodName) object_method_1_code (1 : Nat) (Option.none : Option Jvm.ClassFile.FieldType), Jvm.Cond.code ({ cls := "com/example/vestbook/vestbook/PlaceTable", name := "add", desc := "(IJ)I" } : Jvm.MethodName) prog_68_method_5_code (5 : Nat) (Option.some Jvm.ClassFile.FieldType.int), Jvm.Cond.code ({ cls := "com/example/vestbook/vestbook/PlaceTable", name := "nextSlot", desc := "(IJ)I" } : Jvm.MethodName) prog_68_method_3_code (4 : Nat) (Option.some Jvm.ClassFile.FieldType.int), Jvm.Cond.code ({ cls := "com/example/vestbook/vestbook/PlaceTable", name := "walk", desc := "(IJ)I" } : Jvm.MethodName) prog_68_method_6_code (5 : Nat) (Option.some Jvm.ClassFile.FieldType.int), Jvm.Cond.code ({ cls := "com/example/vestbook/vestbook/PlaceTableNextSlotPinLaw", name := "expected", desc := "(IIIIZJJJJ)I" } : Jvm.MethodName) method_4_code (16 : Nat) (Option.some Jvm.ClassFile.FieldType.int), Jvm.Cond.code ({ cls := "com/example/vestbook/vestbook/PlaceTableNextSlotPinLaw", name := "stops", desc := "(IIIIZJJJJ)Z" } : Jvm.MethodName) method_3_code (13 : Nat) (Option.some Jvm.ClassFile.FieldType.boolean)]
set_option maxRecDepth 65536 in
theorem codes_eq : words1.filter isCode = codes1 := rfl
theorem w_codes : ∀ c ∈ words1.filter isCode, c.before args0 about1 = true := by
  rw [codes_eq]
  intro c hc
  simp only [codes1, List.mem_cons, List.not_mem_nil, or_false] at hc
  rcases hc with rfl | rfl | rfl | rfl | rfl | rfl | rfl | rfl
  · exact w_c0
  · exact w_c1
  · exact w_c2
  · exact w_c3
  · exact w_c4
  · exact w_c5
  · exact w_c6
  · exact w_c7
set_option maxRecDepth 65536 in
theorem w_t1 : (words1.take 24).all (fun c => isCode c || c.before args0 about1) = true := by decide +kernel
set_option maxRecDepth 65536 in
theorem w_t2 : (words1.drop 24).all (fun c => isCode c || c.before args0 about1) = true := by decide +kernel
theorem w_tables : (allAtoms (Jvm.Cond.code x code maxLocals ret :: tables_1)).before args0 about1 = true := by
  rw [allAtoms_all]
  show words1.all (fun c => c.before args0 about1) = true
  refine all_split ?_ w_codes
  rw [← List.take_append_drop 24 words1, List.all_append, w_t1, w_t2]
  rfl
set_option maxRecDepth 65536 in
theorem w_case : (Jvm.Cond.and given_1 narrow_1).before args0 about1 = true := by decide +kernel
theorem w_applies : (headSpec (Jvm.Cond.code x code maxLocals ret :: tables_1) room_1).applies x e0.platform about1 = true :=
  (Spec.applies_iff w_frames).mpr ⟨w_running, w_runnable, w_alone, w_named, w_hears, w_ripe, w_room, w_tables⟩
theorem atStart : AtStart classFile x code maxLocals ret World_1 tables_1 room_1 Calls_1 rest_1 Pre_1 launch0 p0 e0 about1 theMethod args0 below0 :=
  ⟨lists_1, trivial, launch0.admits_env _ _ _, launch0.least_env, fairChoices_fair.cas, fairChoices_fair.clock, w_frames, w_args, w_heap, w_applies, trivial, trivial, w_case⟩
end start1
theorem witness_1 : WitnessClaimed_1 := ⟨start1.p0, start1.e0, start1.about1, start1.theMethod, start1.args0, start1.below0, start1.atStart⟩
end Jvm.Pilot.@@N@@
