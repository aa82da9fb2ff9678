import JvmDerived
import JvmDerived.Pilot.@@N@@Statement
import JvmDerived.Pilot.@@N@@Code
set_option linter.unusedVariables false
set_option linter.unusedSimpArgs false
namespace Jvm.Own
open Jvm Jvm.ClassFile Sem Op Lib Jvm.Free Jvm.Stand Jvm.LawKit Jvm.RoadKit
section Core
variable {p : Program} {l : Launch} {e : Env} {R : Room} {s : State} {m : MethodId} {args : Array Value} {below : List Frame} {meth : Method} {c : Code} {Z : State} {own nm : String} {bytes : ByteArray} {maxL : Nat} {ret : Option FieldType} {n0 : Nat} {a0 : Array Value}
  {T T' : State} {h h' : Heap} {cells slots : Nat} {Q : Option Value → Heap → Prop} {Ls : Array Slot} {st : List Value} {pc n : Nat}
/-- where a walk stands: the state T, its heap h, the cells and slots made so far; nothing below n0 written -/
def Pos (p : Program) (l : Launch) (e : Env) (R : Room) (s : State) (m : MethodId) (args : Array Value) (below : List Frame) (meth : Method) (c : Code) (Z : State) (own nm : String) (bytes : ByteArray) (maxL : Nat) (ret : Option FieldType) (n0 : Nat) (T : State) (h : Heap) (cells slots : Nat) : Prop :=
  (∃ locs, Stand p l e R s m args below meth c T locs cells slots ∧ Fr n0 locs) ∧ T.heap = h ∧ p.tables.exec = Jvm.exec ∧ c.code = bytes ∧ c.maxLocals = maxL ∧ s.vm.findClass own = some m.cls ∧ Z.Warmed39 s.vm ∧ meth.sig.returnType = ret ∧ meth.name = nm ∧ meth.locks = false ∧ n0 ≤ s.heap.size
/-- from the frame g the method comes to its end as Q says -/
def Ends (p : Program) (e : Env) (below : List Frame) (s : State) (R : Room) (n0 : Nat) (Q : Option Value → Heap → Prop) (T : State) (g : JFrame) : Prop :=
  ∃ s₂ o, Steps p.tables e below (T.setTop g) s₂ ∧ s₂.status = .running ∧ Ended s₂ below o ∧ ∃ v L, o = .returned v ∧ (Q v s₂.heap ∧ Fr n0 L) ∧ FrameEnd s o s₂ L R.cells R.slots
/-- a method's contract at given arguments and a given heap -/
def Meth (l : Launch) (Z : State) (y : MethodName) (bytes : ByteArray) (maxL : Nat) (ret : Option FieldType) (rm : Room) (as : Array Value) (h : Heap) (n0 : Nat) (Q : Option Value → Heap → Prop) : Prop :=
  ∀ ws : List Cond, MetFree l y (head1 (Cond.code y bytes maxL ret :: ws) rm) (fun a U => a = as ∧ Z.Warmed39 U.vm ∧ U.heap = h) (fun _ _ _ _ _ => True) (fun _ U o U' => ∃ v L, o = .returned v ∧ (Q v U'.heap ∧ Fr n0 L) ∧ FrameEnd U o U' L rm.cells rm.slots)
theorem Pos.stand (P : Pos p l e R s m args below meth c Z own nm bytes maxL ret n0 T h cells slots) : ∃ locs, Stand p l e R s m args below meth c T locs cells slots ∧ Fr n0 locs := P.1
theorem Pos.heap (P : Pos p l e R s m args below meth c Z own nm bytes maxL ret n0 T h cells slots) : T.heap = h := P.2.1
theorem Pos.hx (P : Pos p l e R s m args below meth c Z own nm bytes maxL ret n0 T h cells slots) : p.tables.exec = Jvm.exec := P.2.2.1
theorem Pos.code (P : Pos p l e R s m args below meth c Z own nm bytes maxL ret n0 T h cells slots) : c.code = bytes := P.2.2.2.1
theorem Pos.maxl (P : Pos p l e R s m args below meth c Z own nm bytes maxL ret n0 T h cells slots) : c.maxLocals = maxL := P.2.2.2.2.1
theorem Pos.own' (P : Pos p l e R s m args below meth c Z own nm bytes maxL ret n0 T h cells slots) : s.vm.findClass own = some m.cls := P.2.2.2.2.2.1
theorem Pos.hZ (P : Pos p l e R s m args below meth c Z own nm bytes maxL ret n0 T h cells slots) : Z.Warmed39 s.vm := P.2.2.2.2.2.2.1
theorem Pos.rets (P : Pos p l e R s m args below meth c Z own nm bytes maxL ret n0 T h cells slots) : meth.sig.returnType = ret := P.2.2.2.2.2.2.2.1
theorem Pos.name (P : Pos p l e R s m args below meth c Z own nm bytes maxL ret n0 T h cells slots) : meth.name = nm := P.2.2.2.2.2.2.2.2.1
theorem Pos.locks (P : Pos p l e R s m args below meth c Z own nm bytes maxL ret n0 T h cells slots) : meth.locks = false := P.2.2.2.2.2.2.2.2.2.1
theorem Pos.low0 (P : Pos p l e R s m args below meth c Z own nm bytes maxL ret n0 T h cells slots) : n0 ≤ s.heap.size := P.2.2.2.2.2.2.2.2.2.2
theorem Pos.low (P : Pos p l e R s m args below meth c Z own nm bytes maxL ret n0 T h cells slots) : n0 ≤ h.size := by
  obtain ⟨_, X, -⟩ := P.stand; rw [← P.heap]; exact Nat.le_trans P.low0 X.same.2.1
theorem Pos.here (P : Pos p l e R s m args below meth c Z own nm bytes maxL ret n0 T h cells slots) : At T m c below := by obtain ⟨_, X, -⟩ := P.stand; exact X.here
/-- on to another state of the same walk -/
theorem Pos.to (P : Pos p l e R s m args below meth c Z own nm bytes maxL ret n0 T h cells slots) {cells' slots' : Nat} {locs : List Loc} (X : Stand p l e R s m args below meth c T' locs cells' slots') (N : Fr n0 locs) (e' : T'.heap = h') : Pos p l e R s m args below meth c Z own nm bytes maxL ret n0 T' h' cells' slots' :=
  ⟨⟨_, X, N⟩, e', P.2.2.1, P.2.2.2.1, P.2.2.2.2.1, P.2.2.2.2.2.1, P.2.2.2.2.2.2.1, P.2.2.2.2.2.2.2.1, P.2.2.2.2.2.2.2.2.1, P.2.2.2.2.2.2.2.2.2.1, P.low0⟩
theorem Ends.via {g g' : JFrame} (E : Ends p e below s R n0 Q T' g') (k : ∀ t, Steps p.tables e below (T'.setTop g') t → Steps p.tables e below (T.setTop g) t) : Ends p e below s R n0 Q T g := by
  obtain ⟨s₂, o, h1, h2⟩ := E; exact ⟨s₂, o, k _ h1, h2⟩
theorem Ends.cast {g g' : JFrame} (q : g = g') (E : Ends p e below s R n0 Q T g') : Ends p e below s R n0 Q T g := q ▸ E
/-- a value by a name -/
theorem nameI {α : Type} {x : α} {F : α → Prop} (k : ∀ z, z = x → F z) : F x := k x rfl
theorem Meth.of {y : MethodName} {rm : Room} {as : Array Value} (hcls : plainFor y = true) (hlow : n0 ≤ h.size)
    (body : ∀ p e s m args below meth c T, Pos p l e rm s m args below meth c Z y.cls y.name bytes maxL ret n0 T h 0 0 → Ends p e below s rm n0 Q T (entryFrame m as maxL)) : Meth l Z y bytes maxL ret rm as h n0 Q := by
  intro ws
  refine MetFree.of_bodySF hcls hisR ?_
  intro p e s m args below meth c s₁ Bd hml0 hP hK
  obtain ⟨rfl, hZ, hh⟩ := hP
  have hown : s.vm.findClass y.cls = some m.cls := findClass_of_methodNamed Bd.named
  have hnm := (name_of_methodNamed Bd.named Bd.method).1
  have X0 : Stand p l e rm s m args below meth c s₁ [] 0 0 := Stand.of_body Bd
  have e0 : s₁.heap = h := by rw [← hh, Bd.state]; rfl
  exact body p e s m args below meth c s₁ ⟨⟨[], X0, Fr.nil n0⟩, e0, Bd.exec, Bd.bytes, hml0, hown, hZ, Bd.returns, hnm, Bd.notSynchronized, hh ▸ hlow⟩
/-! returns -/
theorem retV (P : Pos p l e R s m args below meth c Z own nm bytes maxL none n0 T h cells slots) (hd : decode bytes pc = .ok (.return_, 1)) (hc : cells ≤ R.cells) (hs : slots ≤ R.slots) (q : Q none h) : Ends p e below s R n0 Q T (mkF m pc Ls []) := by
  obtain ⟨locs, X, N⟩ := P.stand
  obtain ⟨fs, hr, hrun, hended, hW, hsame⟩ := X.leave (v := none) (fun _ => rfl) P.locks
  refine ⟨_, _, X.returnOut P.hx P.rets (hb P.code hd) hr, hrun, hended, _, _, rfl, ⟨?_, N⟩, ⟨_, rfl⟩, hW, hsame.mono hc hs⟩
  show Q none T.heap
  rw [P.heap]; exact q
theorem retA {w : Value} {t : FieldType} {i : Instr} (P : Pos p l e R s m args below meth c Z own nm bytes maxL (some t) n0 T h cells slots) (hd : decode bytes pc = .ok (i, 1)) (hn : narrow t w = w)
    (hi : (i = .ireturn ∧ (t = .int ∨ t = .boolean ∨ t = .byte ∨ t = .char ∨ t = .short) ∧ ∃ z, w = .int z) ∨ (i = .lreturn ∧ t = .long ∧ ∃ z, w = .long z) ∨ (i = .dreturn ∧ t = .double ∧ ∃ z, w = .double z) ∨ (i = .freturn ∧ t = .float ∧ ∃ z, w = .float z) ∨ (i = .areturn ∧ t.isReference = true ∧ w.isRef = true))
    (hc : cells ≤ R.cells) (hs : slots ≤ R.slots) (q : Q (some w) h) : Ends p e below s R n0 Q T (mkF m pc Ls (w :: st)) := by
  obtain ⟨locs, X, N⟩ := P.stand
  obtain ⟨fs, hr, hrun, hended, hW, hsame⟩ := X.leave (v := some w) (fun h => by rw [P.rets] at h; cases h) P.locks
  refine ⟨_, _, retOut X P.hx P.rets hn hi (hb P.code hd) hr, hrun, hended, _, _, rfl, ⟨?_, N⟩, ⟨_, rfl⟩, hW, hsame.mono hc hs⟩
  show Q (some w) T.heap
  rw [P.heap]; exact q
theorem retI {x : Int32} (P : Pos p l e R s m args below meth c Z own nm bytes maxL (some .int) n0 T h cells slots) (hd : decode bytes pc = .ok (.ireturn, 1)) (hc : cells ≤ R.cells) (hs : slots ≤ R.slots) (q : Q (some (.int x)) h) : Ends p e below s R n0 Q T (mkF m pc Ls (.int x :: st)) :=
  retA P hd rfl (Or.inl ⟨rfl, Or.inl rfl, _, rfl⟩) hc hs q
theorem retL {x : Int64} (P : Pos p l e R s m args below meth c Z own nm bytes maxL (some .long) n0 T h cells slots) (hd : decode bytes pc = .ok (.lreturn, 1)) (hc : cells ≤ R.cells) (hs : slots ≤ R.slots) (q : Q (some (.long x)) h) : Ends p e below s R n0 Q T (mkF m pc Ls (.long x :: st)) :=
  retA P hd rfl (Or.inr (Or.inl ⟨rfl, rfl, _, rfl⟩)) hc hs q
theorem retR {w : Value} {C : String} (P : Pos p l e R s m args below meth c Z own nm bytes maxL (some (.object C)) n0 T h cells slots) (hd : decode bytes pc = .ok (.areturn, 1)) (hw : w.isRef = true) (hc : cells ≤ R.cells) (hs : slots ≤ R.slots) (q : Q (some w) h) : Ends p e below s R n0 Q T (mkF m pc Ls (w :: st)) := by
  refine retA P hd ?_ (Or.inr (Or.inr (Or.inr (Or.inr ⟨rfl, rfl, hw⟩)))) hc hs q
  rcases ref_cases hw with rfl | ⟨z, rfl⟩ <;> rfl
/-- a boolean's return narrows to the last bit -/
theorem retZ {x : Int32} (P : Pos p l e R s m args below meth c Z own nm bytes maxL (some .boolean) n0 T h cells slots) (hd : decode bytes pc = .ok (.ireturn, 1)) (hx : x = 0 ∨ x = 1) (hc : cells ≤ R.cells) (hs : slots ≤ R.slots) (q : Q (some (.int x)) h) : Ends p e below s R n0 Q T (mkF m pc Ls (.int x :: st)) := by
  refine retA P hd ?_ (Or.inl ⟨rfl, Or.inr (Or.inl rfl), _, rfl⟩) hc hs q
  rcases hx with rfl | rfl <;> rfl
theorem retB {x : Int32} (P : Pos p l e R s m args below meth c Z own nm bytes maxL (some .byte) n0 T h cells slots) (hd : decode bytes pc = .ok (.ireturn, 1)) (hx : x.toInt8.toInt32 = x) (hc : cells ≤ R.cells) (hs : slots ≤ R.slots) (q : Q (some (.int x)) h) : Ends p e below s R n0 Q T (mkF m pc Ls (.int x :: st)) :=
  retA P hd (by show Value.int x.toInt8.toInt32 = Value.int x; rw [hx]) (Or.inl ⟨rfl, Or.inr (Or.inr (Or.inl rfl)), _, rfl⟩) hc hs q
theorem iloadN (P : Pos p l e R s m args below meth c Z own nm bytes maxL ret n0 T h cells slots) {j : Fin 4} {v : Int32} (hd : decode bytes pc = .ok (.iload_n j, 1)) (hl : Ls[j.val]? = some (.val (.int v))) (hn : n = pc + 1)
    (E : Ends p e below s R n0 Q T (mkF m n Ls (.int v :: st))) : Ends p e below s R n0 Q T (mkF m pc Ls st) := by
  subst hn; exact E.via fun t k => XS.iloadN P.here P.hx rfl (hb P.code hd) hl k
theorem iload (P : Pos p l e R s m args below meth c Z own nm bytes maxL ret n0 T h cells slots) {j : Nat} {v : Int32} (hd : decode bytes pc = .ok (.iload j, 2)) (hl : Ls[j]? = some (.val (.int v))) (hn : n = pc + 2)
    (E : Ends p e below s R n0 Q T (mkF m n Ls (.int v :: st))) : Ends p e below s R n0 Q T (mkF m pc Ls st) := by
  subst hn; exact E.via fun t k => XS.iload P.here P.hx rfl (hb P.code hd) hl k
theorem istoreN (P : Pos p l e R s m args below meth c Z own nm bytes maxL ret n0 T h cells slots) {j : Fin 4} {v : Int32} {l' : Array Slot} (hd : decode bytes pc = .ok (.istore_n j, 1)) (hl : storeLocals Ls j.val (.int v) = some l') (hn : n = pc + 1)
    (E : Ends p e below s R n0 Q T (mkF m n l' st)) : Ends p e below s R n0 Q T (mkF m pc Ls (.int v :: st)) := by
  subst hn; exact E.via fun t k => XS.istoreN P.here P.hx rfl (hb P.code hd) rfl hl k
theorem istore (P : Pos p l e R s m args below meth c Z own nm bytes maxL ret n0 T h cells slots) {j : Nat} {v : Int32} {l' : Array Slot} (hd : decode bytes pc = .ok (.istore j, 2)) (hl : storeLocals Ls j (.int v) = some l') (hn : n = pc + 2)
    (E : Ends p e below s R n0 Q T (mkF m n l' st)) : Ends p e below s R n0 Q T (mkF m pc Ls (.int v :: st)) := by
  subst hn; exact E.via fun t k => XS.istore P.here P.hx rfl (hb P.code hd) rfl hl k
theorem lloadN (P : Pos p l e R s m args below meth c Z own nm bytes maxL ret n0 T h cells slots) {j : Fin 4} {v : Int64} (hd : decode bytes pc = .ok (.lload_n j, 1)) (hl : Ls[j.val]? = some (.val (.long v))) (hn : n = pc + 1)
    (E : Ends p e below s R n0 Q T (mkF m n Ls (.long v :: st))) : Ends p e below s R n0 Q T (mkF m pc Ls st) := by
  subst hn; exact E.via fun t k => XS.lloadN P.here P.hx rfl (hb P.code hd) hl k
theorem lload (P : Pos p l e R s m args below meth c Z own nm bytes maxL ret n0 T h cells slots) {j : Nat} {v : Int64} (hd : decode bytes pc = .ok (.lload j, 2)) (hl : Ls[j]? = some (.val (.long v))) (hn : n = pc + 2)
    (E : Ends p e below s R n0 Q T (mkF m n Ls (.long v :: st))) : Ends p e below s R n0 Q T (mkF m pc Ls st) := by
  subst hn; exact E.via fun t k => XS.lload P.here P.hx rfl (hb P.code hd) hl k
theorem lstoreN (P : Pos p l e R s m args below meth c Z own nm bytes maxL ret n0 T h cells slots) {j : Fin 4} {v : Int64} {l' : Array Slot} (hd : decode bytes pc = .ok (.lstore_n j, 1)) (hl : storeLocals Ls j.val (.long v) = some l') (hn : n = pc + 1)
    (E : Ends p e below s R n0 Q T (mkF m n l' st)) : Ends p e below s R n0 Q T (mkF m pc Ls (.long v :: st)) := by
  subst hn; exact E.via fun t k => XS.lstoreN P.here P.hx rfl (hb P.code hd) rfl hl k
theorem lstore (P : Pos p l e R s m args below meth c Z own nm bytes maxL ret n0 T h cells slots) {j : Nat} {v : Int64} {l' : Array Slot} (hd : decode bytes pc = .ok (.lstore j, 2)) (hl : storeLocals Ls j (.long v) = some l') (hn : n = pc + 2)
    (E : Ends p e below s R n0 Q T (mkF m n l' st)) : Ends p e below s R n0 Q T (mkF m pc Ls (.long v :: st)) := by
  subst hn; exact E.via fun t k => XS.lstore P.here P.hx rfl (hb P.code hd) rfl hl k
theorem aloadN (P : Pos p l e R s m args below meth c Z own nm bytes maxL ret n0 T h cells slots) {j : Fin 4} {v : Value} (hd : decode bytes pc = .ok (.aload_n j, 1)) (hl : Ls[j.val]? = some (.val v)) (hv : v.isRef = true) (hn : n = pc + 1)
    (E : Ends p e below s R n0 Q T (mkF m n Ls (v :: st))) : Ends p e below s R n0 Q T (mkF m pc Ls st) := by
  subst hn; exact E.via fun t k => XS.aloadN P.here P.hx rfl (hb P.code hd) hl hv k
theorem aload (P : Pos p l e R s m args below meth c Z own nm bytes maxL ret n0 T h cells slots) {j : Nat} {v : Value} (hd : decode bytes pc = .ok (.aload j, 2)) (hl : Ls[j]? = some (.val v)) (hv : v.isRef = true) (hn : n = pc + 2)
    (E : Ends p e below s R n0 Q T (mkF m n Ls (v :: st))) : Ends p e below s R n0 Q T (mkF m pc Ls st) := by
  subst hn; exact E.via fun t k => XS.aload P.here P.hx rfl (hb P.code hd) hl hv k
theorem astoreN (P : Pos p l e R s m args below meth c Z own nm bytes maxL ret n0 T h cells slots) {j : Fin 4} {v : Value} {l' : Array Slot} (hd : decode bytes pc = .ok (.astore_n j, 1)) (hv : v.isRef = true) (hl : storeLocals Ls j.val v = some l') (hn : n = pc + 1)
    (E : Ends p e below s R n0 Q T (mkF m n l' st)) : Ends p e below s R n0 Q T (mkF m pc Ls (v :: st)) := by
  subst hn; exact E.via fun t k => XS.astoreN P.here P.hx rfl (hb P.code hd) rfl hv hl k
theorem astore (P : Pos p l e R s m args below meth c Z own nm bytes maxL ret n0 T h cells slots) {j : Nat} {v : Value} {l' : Array Slot} (hd : decode bytes pc = .ok (.astore j, 2)) (hv : v.isRef = true) (hl : storeLocals Ls j v = some l') (hn : n = pc + 2)
    (E : Ends p e below s R n0 Q T (mkF m n l' st)) : Ends p e below s R n0 Q T (mkF m pc Ls (v :: st)) := by
  subst hn; exact E.via fun t k => XS.astore P.here P.hx rfl (hb P.code hd) rfl hv hl k
theorem iconst (P : Pos p l e R s m args below meth c Z own nm bytes maxL ret n0 T h cells slots) {i : Int} (hd : decode bytes pc = .ok (.iconst i, 1)) {x : Int32} (hx : x = Int32.ofInt i) (hn : n = pc + 1)
    (E : Ends p e below s R n0 Q T (mkF m n Ls (.int x :: st))) : Ends p e below s R n0 Q T (mkF m pc Ls st) := by
  subst hn; exact E.via fun t k => XS.iconst P.here P.hx rfl (hb P.code hd) (by subst hx; exact k)
theorem bipush (P : Pos p l e R s m args below meth c Z own nm bytes maxL ret n0 T h cells slots) {i : Int} (hd : decode bytes pc = .ok (.bipush i, 2)) {x : Int32} (hx : x = (Int8.ofInt i).toInt32) (hn : n = pc + 2)
    (E : Ends p e below s R n0 Q T (mkF m n Ls (.int x :: st))) : Ends p e below s R n0 Q T (mkF m pc Ls st) := by
  subst hn; exact E.via fun t k => XS.bipush P.here P.hx rfl (hb P.code hd) (by subst hx; exact k)
theorem sipush (P : Pos p l e R s m args below meth c Z own nm bytes maxL ret n0 T h cells slots) {i : Int} (hd : decode bytes pc = .ok (.sipush i, 3)) {x : Int32} (hx : x = (Int16.ofInt i).toInt32) (hn : n = pc + 3)
    (E : Ends p e below s R n0 Q T (mkF m n Ls (.int x :: st))) : Ends p e below s R n0 Q T (mkF m pc Ls st) := by
  subst hn; exact E.via fun t k => XS.sipush P.here P.hx rfl (hb P.code hd) (by subst hx; exact k)
theorem lconst (P : Pos p l e R s m args below meth c Z own nm bytes maxL ret n0 T h cells slots) {i : Fin 2} (hd : decode bytes pc = .ok (.lconst i, 1)) {x : Int64} (hx : x = Int64.ofNat i) (hn : n = pc + 1)
    (E : Ends p e below s R n0 Q T (mkF m n Ls (.long x :: st))) : Ends p e below s R n0 Q T (mkF m pc Ls st) := by
  subst hn; exact E.via fun t k => XS.lconst P.here P.hx rfl (hb P.code hd) (by subst hx; exact k)
theorem aconstNull (P : Pos p l e R s m args below meth c Z own nm bytes maxL ret n0 T h cells slots) (hd : decode bytes pc = .ok (.aconst_null, 1)) (hn : n = pc + 1)
    (E : Ends p e below s R n0 Q T (mkF m n Ls (.null :: st))) : Ends p e below s R n0 Q T (mkF m pc Ls st) := by
  subst hn; exact E.via fun t k => XS.aconstNull P.here P.hx rfl (hb P.code hd) k
theorem iadd (P : Pos p l e R s m args below meth c Z own nm bytes maxL ret n0 T h cells slots) {x y : Int32} (hd : decode bytes pc = .ok (.iadd, 1)) (hn : n = pc + 1)
    (E : Ends p e below s R n0 Q T (mkF m n Ls (.int (x + y) :: st))) : Ends p e below s R n0 Q T (mkF m pc Ls (.int y :: .int x :: st)) := by
  subst hn; exact E.via fun t k => XS.iadd P.here P.hx rfl (hb P.code hd) rfl k
theorem isub (P : Pos p l e R s m args below meth c Z own nm bytes maxL ret n0 T h cells slots) {x y : Int32} (hd : decode bytes pc = .ok (.isub, 1)) (hn : n = pc + 1)
    (E : Ends p e below s R n0 Q T (mkF m n Ls (.int (x - y) :: st))) : Ends p e below s R n0 Q T (mkF m pc Ls (.int y :: .int x :: st)) := by
  subst hn; exact E.via fun t k => XS.isub P.here P.hx rfl (hb P.code hd) rfl k
theorem imul (P : Pos p l e R s m args below meth c Z own nm bytes maxL ret n0 T h cells slots) {x y : Int32} (hd : decode bytes pc = .ok (.imul, 1)) (hn : n = pc + 1)
    (E : Ends p e below s R n0 Q T (mkF m n Ls (.int (x * y) :: st))) : Ends p e below s R n0 Q T (mkF m pc Ls (.int y :: .int x :: st)) := by
  subst hn; exact E.via fun t k => XS.imul P.here P.hx rfl (hb P.code hd) rfl k
theorem iand (P : Pos p l e R s m args below meth c Z own nm bytes maxL ret n0 T h cells slots) {x y : Int32} (hd : decode bytes pc = .ok (.iand, 1)) (hn : n = pc + 1)
    (E : Ends p e below s R n0 Q T (mkF m n Ls (.int (x &&& y) :: st))) : Ends p e below s R n0 Q T (mkF m pc Ls (.int y :: .int x :: st)) := by
  subst hn; exact E.via fun t k => XS.iand P.here P.hx rfl (hb P.code hd) rfl k
theorem ior (P : Pos p l e R s m args below meth c Z own nm bytes maxL ret n0 T h cells slots) {x y : Int32} (hd : decode bytes pc = .ok (.ior, 1)) (hn : n = pc + 1)
    (E : Ends p e below s R n0 Q T (mkF m n Ls (.int (x ||| y) :: st))) : Ends p e below s R n0 Q T (mkF m pc Ls (.int y :: .int x :: st)) := by
  subst hn; exact E.via fun t k => XS.ior P.here P.hx rfl (hb P.code hd) rfl k
theorem ixor (P : Pos p l e R s m args below meth c Z own nm bytes maxL ret n0 T h cells slots) {x y : Int32} (hd : decode bytes pc = .ok (.ixor, 1)) (hn : n = pc + 1)
    (E : Ends p e below s R n0 Q T (mkF m n Ls (.int (x ^^^ y) :: st))) : Ends p e below s R n0 Q T (mkF m pc Ls (.int y :: .int x :: st)) := by
  subst hn; exact E.via fun t k => XS.ixor P.here P.hx rfl (hb P.code hd) rfl k
theorem ladd (P : Pos p l e R s m args below meth c Z own nm bytes maxL ret n0 T h cells slots) {x y : Int64} (hd : decode bytes pc = .ok (.ladd, 1)) (hn : n = pc + 1)
    (E : Ends p e below s R n0 Q T (mkF m n Ls (.long (x + y) :: st))) : Ends p e below s R n0 Q T (mkF m pc Ls (.long y :: .long x :: st)) := by
  subst hn; exact E.via fun t k => XS.ladd P.here P.hx rfl (hb P.code hd) rfl k
theorem lsub (P : Pos p l e R s m args below meth c Z own nm bytes maxL ret n0 T h cells slots) {x y : Int64} (hd : decode bytes pc = .ok (.lsub, 1)) (hn : n = pc + 1)
    (E : Ends p e below s R n0 Q T (mkF m n Ls (.long (x - y) :: st))) : Ends p e below s R n0 Q T (mkF m pc Ls (.long y :: .long x :: st)) := by
  subst hn; exact E.via fun t k => XS.lsub P.here P.hx rfl (hb P.code hd) rfl k
theorem lmul (P : Pos p l e R s m args below meth c Z own nm bytes maxL ret n0 T h cells slots) {x y : Int64} (hd : decode bytes pc = .ok (.lmul, 1)) (hn : n = pc + 1)
    (E : Ends p e below s R n0 Q T (mkF m n Ls (.long (x * y) :: st))) : Ends p e below s R n0 Q T (mkF m pc Ls (.long y :: .long x :: st)) := by
  subst hn; exact E.via fun t k => XS.lmul P.here P.hx rfl (hb P.code hd) rfl k
theorem land (P : Pos p l e R s m args below meth c Z own nm bytes maxL ret n0 T h cells slots) {x y : Int64} (hd : decode bytes pc = .ok (.land, 1)) (hn : n = pc + 1)
    (E : Ends p e below s R n0 Q T (mkF m n Ls (.long (x &&& y) :: st))) : Ends p e below s R n0 Q T (mkF m pc Ls (.long y :: .long x :: st)) := by
  subst hn; exact E.via fun t k => XS.land P.here P.hx rfl (hb P.code hd) rfl k
theorem lor (P : Pos p l e R s m args below meth c Z own nm bytes maxL ret n0 T h cells slots) {x y : Int64} (hd : decode bytes pc = .ok (.lor, 1)) (hn : n = pc + 1)
    (E : Ends p e below s R n0 Q T (mkF m n Ls (.long (x ||| y) :: st))) : Ends p e below s R n0 Q T (mkF m pc Ls (.long y :: .long x :: st)) := by
  subst hn; exact E.via fun t k => XS.lor P.here P.hx rfl (hb P.code hd) rfl k
theorem lxor (P : Pos p l e R s m args below meth c Z own nm bytes maxL ret n0 T h cells slots) {x y : Int64} (hd : decode bytes pc = .ok (.lxor, 1)) (hn : n = pc + 1)
    (E : Ends p e below s R n0 Q T (mkF m n Ls (.long (x ^^^ y) :: st))) : Ends p e below s R n0 Q T (mkF m pc Ls (.long y :: .long x :: st)) := by
  subst hn; exact E.via fun t k => XS.lxor P.here P.hx rfl (hb P.code hd) rfl k
theorem ishl (P : Pos p l e R s m args below meth c Z own nm bytes maxL ret n0 T h cells slots) {x y : Int32} (hd : decode bytes pc = .ok (.ishl, 1)) (hn : n = pc + 1)
    (E : Ends p e below s R n0 Q T (mkF m n Ls (.int (x <<< (y &&& 31)) :: st))) : Ends p e below s R n0 Q T (mkF m pc Ls (.int y :: .int x :: st)) := by
  subst hn; exact E.via fun t k => XS.ishl P.here P.hx rfl (hb P.code hd) rfl k
theorem ishr (P : Pos p l e R s m args below meth c Z own nm bytes maxL ret n0 T h cells slots) {x y : Int32} (hd : decode bytes pc = .ok (.ishr, 1)) (hn : n = pc + 1)
    (E : Ends p e below s R n0 Q T (mkF m n Ls (.int (x >>> (y &&& 31)) :: st))) : Ends p e below s R n0 Q T (mkF m pc Ls (.int y :: .int x :: st)) := by
  subst hn; exact E.via fun t k => XS.ishr P.here P.hx rfl (hb P.code hd) rfl k
theorem iushr (P : Pos p l e R s m args below meth c Z own nm bytes maxL ret n0 T h cells slots) {x y : Int32} (hd : decode bytes pc = .ok (.iushr, 1)) (hn : n = pc + 1)
    (E : Ends p e below s R n0 Q T (mkF m n Ls (.int ((x.toUInt32 >>> (y &&& 31).toUInt32).toInt32) :: st))) : Ends p e below s R n0 Q T (mkF m pc Ls (.int y :: .int x :: st)) := by
  subst hn; exact E.via fun t k => XS.iushr P.here P.hx rfl (hb P.code hd) rfl k
theorem lshl (P : Pos p l e R s m args below meth c Z own nm bytes maxL ret n0 T h cells slots) {x : Int64} {y : Int32} (hd : decode bytes pc = .ok (.lshl, 1)) (hn : n = pc + 1)
    (E : Ends p e below s R n0 Q T (mkF m n Ls (.long (x <<< (y &&& 0x3f).toInt64) :: st))) : Ends p e below s R n0 Q T (mkF m pc Ls (.int y :: .long x :: st)) := by
  subst hn; exact E.via fun t k => XS.lshl P.here P.hx rfl (hb P.code hd) rfl k
theorem lshr (P : Pos p l e R s m args below meth c Z own nm bytes maxL ret n0 T h cells slots) {x : Int64} {y : Int32} (hd : decode bytes pc = .ok (.lshr, 1)) (hn : n = pc + 1)
    (E : Ends p e below s R n0 Q T (mkF m n Ls (.long (x >>> (y &&& 0x3f).toInt64) :: st))) : Ends p e below s R n0 Q T (mkF m pc Ls (.int y :: .long x :: st)) := by
  subst hn; exact E.via fun t k => XS.lshr P.here P.hx rfl (hb P.code hd) rfl k
theorem lushr (P : Pos p l e R s m args below meth c Z own nm bytes maxL ret n0 T h cells slots) {x : Int64} {y : Int32} (hd : decode bytes pc = .ok (.lushr, 1)) (hn : n = pc + 1)
    (E : Ends p e below s R n0 Q T (mkF m n Ls (.long ((x.toUInt64 >>> (y &&& 0x3f).toInt64.toUInt64).toInt64) :: st))) : Ends p e below s R n0 Q T (mkF m pc Ls (.int y :: .long x :: st)) := by
  subst hn; exact E.via fun t k => XS.lushr P.here P.hx rfl (hb P.code hd) rfl k
theorem idiv (P : Pos p l e R s m args below meth c Z own nm bytes maxL ret n0 T h cells slots) {x y : Int32} (hd : decode bytes pc = .ok (.idiv, 1)) (hy : y ≠ 0) (hn : n = pc + 1)
    (E : Ends p e below s R n0 Q T (mkF m n Ls (.int (x / y) :: st))) : Ends p e below s R n0 Q T (mkF m pc Ls (.int y :: .int x :: st)) := by
  subst hn; exact E.via fun t k => XS.idiv P.here P.hx rfl (hb P.code hd) rfl hy k
theorem irem (P : Pos p l e R s m args below meth c Z own nm bytes maxL ret n0 T h cells slots) {x y : Int32} (hd : decode bytes pc = .ok (.irem, 1)) (hy : y ≠ 0) (hn : n = pc + 1)
    (E : Ends p e below s R n0 Q T (mkF m n Ls (.int (x % y) :: st))) : Ends p e below s R n0 Q T (mkF m pc Ls (.int y :: .int x :: st)) := by
  subst hn; obtain ⟨_, X, -⟩ := P.stand; exact E.via fun t k => Jvm.RoadKit.iremM X P.hx rfl (hb P.code hd) rfl hy k
theorem ldiv (P : Pos p l e R s m args below meth c Z own nm bytes maxL ret n0 T h cells slots) {x y : Int64} (hd : decode bytes pc = .ok (.ldiv, 1)) (hy : y ≠ 0) (hn : n = pc + 1)
    (E : Ends p e below s R n0 Q T (mkF m n Ls (.long (x / y) :: st))) : Ends p e below s R n0 Q T (mkF m pc Ls (.long y :: .long x :: st)) := by
  subst hn; exact E.via fun t k => XS.ldiv P.here P.hx rfl (hb P.code hd) rfl hy k
theorem lrem (P : Pos p l e R s m args below meth c Z own nm bytes maxL ret n0 T h cells slots) {x y : Int64} (hd : decode bytes pc = .ok (.lrem, 1)) (hy : y ≠ 0) (hn : n = pc + 1)
    (E : Ends p e below s R n0 Q T (mkF m n Ls (.long (x - (x / y) * y) :: st))) : Ends p e below s R n0 Q T (mkF m pc Ls (.long y :: .long x :: st)) := by
  subst hn; exact E.via fun t k => XS.lrem P.here P.hx rfl (hb P.code hd) rfl hy k
theorem ineg (P : Pos p l e R s m args below meth c Z own nm bytes maxL ret n0 T h cells slots) {x : Int32} (hd : decode bytes pc = .ok (.ineg, 1)) (hn : n = pc + 1)
    (E : Ends p e below s R n0 Q T (mkF m n Ls (.int (-x) :: st))) : Ends p e below s R n0 Q T (mkF m pc Ls (.int x :: st)) := by
  subst hn; exact E.via fun t k => XS.ineg P.here P.hx rfl (hb P.code hd) rfl k
theorem lneg (P : Pos p l e R s m args below meth c Z own nm bytes maxL ret n0 T h cells slots) {x : Int64} (hd : decode bytes pc = .ok (.lneg, 1)) (hn : n = pc + 1)
    (E : Ends p e below s R n0 Q T (mkF m n Ls (.long (-x) :: st))) : Ends p e below s R n0 Q T (mkF m pc Ls (.long x :: st)) := by
  subst hn; exact E.via fun t k => XS.lneg P.here P.hx rfl (hb P.code hd) rfl k
theorem i2l (P : Pos p l e R s m args below meth c Z own nm bytes maxL ret n0 T h cells slots) {x : Int32} (hd : decode bytes pc = .ok (.i2l, 1)) (hn : n = pc + 1)
    (E : Ends p e below s R n0 Q T (mkF m n Ls (.long (x.toInt64) :: st))) : Ends p e below s R n0 Q T (mkF m pc Ls (.int x :: st)) := by
  subst hn; exact E.via fun t k => XS.i2l P.here P.hx rfl (hb P.code hd) rfl k
theorem l2i (P : Pos p l e R s m args below meth c Z own nm bytes maxL ret n0 T h cells slots) {x : Int64} (hd : decode bytes pc = .ok (.l2i, 1)) (hn : n = pc + 1)
    (E : Ends p e below s R n0 Q T (mkF m n Ls (.int (x.toInt32) :: st))) : Ends p e below s R n0 Q T (mkF m pc Ls (.long x :: st)) := by
  subst hn; exact E.via fun t k => XS.l2i P.here P.hx rfl (hb P.code hd) rfl k
theorem i2b (P : Pos p l e R s m args below meth c Z own nm bytes maxL ret n0 T h cells slots) {x : Int32} (hd : decode bytes pc = .ok (.i2b, 1)) (hn : n = pc + 1)
    (E : Ends p e below s R n0 Q T (mkF m n Ls (.int (x.toInt8.toInt32) :: st))) : Ends p e below s R n0 Q T (mkF m pc Ls (.int x :: st)) := by
  subst hn; exact E.via fun t k => XS.i2b P.here P.hx rfl (hb P.code hd) rfl k
theorem i2s (P : Pos p l e R s m args below meth c Z own nm bytes maxL ret n0 T h cells slots) {x : Int32} (hd : decode bytes pc = .ok (.i2s, 1)) (hn : n = pc + 1)
    (E : Ends p e below s R n0 Q T (mkF m n Ls (.int (x.toInt16.toInt32) :: st))) : Ends p e below s R n0 Q T (mkF m pc Ls (.int x :: st)) := by
  subst hn; exact E.via fun t k => XS.i2s P.here P.hx rfl (hb P.code hd) rfl k
theorem i2c (P : Pos p l e R s m args below meth c Z own nm bytes maxL ret n0 T h cells slots) {x : Int32} (hd : decode bytes pc = .ok (.i2c, 1)) (hn : n = pc + 1)
    (E : Ends p e below s R n0 Q T (mkF m n Ls (.int (x.toUInt32.toUInt16.toUInt32.toInt32) :: st))) : Ends p e below s R n0 Q T (mkF m pc Ls (.int x :: st)) := by
  subst hn; exact E.via fun t k => XS.i2c P.here P.hx rfl (hb P.code hd) rfl k
theorem lcmp (P : Pos p l e R s m args below meth c Z own nm bytes maxL ret n0 T h cells slots) {x y : Int64} (hd : decode bytes pc = .ok (.lcmp, 1)) (hn : n = pc + 1)
    (E : Ends p e below s R n0 Q T (mkF m n Ls (.int (lcmpW x y) :: st))) : Ends p e below s R n0 Q T (mkF m pc Ls (.long y :: .long x :: st)) := by
  subst hn; exact E.via fun t k => XS.lcmp P.here P.hx rfl (hb P.code hd) rfl k
theorem iinc (P : Pos p l e R s m args below meth c Z own nm bytes maxL ret n0 T h cells slots) {j : Nat} {cst : Int} {x : Int32} {l' : Array Slot} (hd : decode bytes pc = .ok (.iinc j cst, 3)) {y : Int32} (hl : Ls[j]? = some (.val (.int x))) (hy : y = Int32.ofInt cst) (hl' : storeLocals Ls j (.int (x + Int32.ofInt cst)) = some l') (hn : n = pc + 3)
    (E : Ends p e below s R n0 Q T (mkF m n l' st)) : Ends p e below s R n0 Q T (mkF m pc Ls st) := by
  subst hn; exact E.via fun t k => XS.iinc P.here P.hx rfl (hb P.code hd) hl hl' k
theorem dup (P : Pos p l e R s m args below meth c Z own nm bytes maxL ret n0 T h cells slots) {x : Value} (hd : decode bytes pc = .ok (.dup, 1)) (hc : x.category = 1) (hn : n = pc + 1)
    (E : Ends p e below s R n0 Q T (mkF m n Ls (x :: x :: st))) : Ends p e below s R n0 Q T (mkF m pc Ls (x :: st)) := by
  subst hn; exact E.via fun t k => XS.dup P.here P.hx rfl (hb P.code hd) rfl hc k
theorem dupX1 (P : Pos p l e R s m args below meth c Z own nm bytes maxL ret n0 T h cells slots) {x y : Value} (hd : decode bytes pc = .ok (.dup_x1, 1)) (hc : x.category = 1) (hc' : y.category = 1) (hn : n = pc + 1)
    (E : Ends p e below s R n0 Q T (mkF m n Ls (x :: y :: x :: st))) : Ends p e below s R n0 Q T (mkF m pc Ls (x :: y :: st)) := by
  subst hn; exact E.via fun t k => XS.dupX1 P.here P.hx rfl (hb P.code hd) rfl hc hc' k
theorem dupD (P : Pos p l e R s m args below meth c Z own nm bytes maxL ret n0 T h cells slots) {x y : Value} (hd : decode bytes pc = .ok (.dup2, 1)) (hc : x.category = 1) (hc' : y.category = 1) (hn : n = pc + 1)
    (E : Ends p e below s R n0 Q T (mkF m n Ls (x :: y :: x :: y :: st))) : Ends p e below s R n0 Q T (mkF m pc Ls (x :: y :: st)) := by
  subst hn; exact E.via fun t k => XT.dup2 P.here P.hx rfl (hb P.code hd) rfl hc hc' k
theorem popV (P : Pos p l e R s m args below meth c Z own nm bytes maxL ret n0 T h cells slots) {x : Value} (hd : decode bytes pc = .ok (.pop, 1)) (hc : x.category = 1) (hn : n = pc + 1)
    (E : Ends p e below s R n0 Q T (mkF m n Ls st)) : Ends p e below s R n0 Q T (mkF m pc Ls (x :: st)) := by
  subst hn; exact E.via fun t k => XS.pop P.here P.hx rfl (hb P.code hd) rfl hc k
theorem goto {o : Int} (P : Pos p l e R s m args below meth c Z own nm bytes maxL ret n0 T h cells slots) (hd : decode bytes pc = .ok (.goto o, 3)) (ho : 0 ≤ (pc : Int) + o ∧ ((pc : Int) + o).toNat = n) (E : Ends p e below s R n0 Q T (mkF m n Ls st)) : Ends p e below s R n0 Q T (mkF m pc Ls st) :=
  E.via fun t k => XS.goto P.here P.hx rfl (pc0 := pc) (pc' := n) rfl (hb P.code hd) ho.1 ho.2 k
theorem icmpB {cd : ClassFile.Cond} {o : Int} {x y : Int32} {n' : Nat} (P : Pos p l e R s m args below meth c Z own nm bytes maxL ret n0 T h cells slots) (hd : decode bytes pc = .ok (.if_icmp cd o, 3)) (ho : 0 ≤ (pc : Int) + o ∧ ((pc : Int) + o).toNat = n') (hn : n = pc + 3)
    (Et : if_icmp.holds cd x y = true → Ends p e below s R n0 Q T (mkF m n' Ls st)) (Ef : if_icmp.holds cd x y = false → Ends p e below s R n0 Q T (mkF m n Ls st)) : Ends p e below s R n0 Q T (mkF m pc Ls (.int y :: .int x :: st)) := by
  subst hn
  cases hq : if_icmp.holds cd x y with
  | true => exact (Et hq).via fun t k => XS.icmpYes P.here P.hx rfl (pc0 := pc) (pc' := n') rfl (hb P.code hd) rfl hq ho.1 ho.2 k
  | false => exact (Ef hq).via fun t k => XS.icmpNo P.here P.hx rfl (hb P.code hd) rfl hq k
theorem ifB {cd : ClassFile.Cond} {o : Int} {x : Int32} {n' : Nat} (P : Pos p l e R s m args below meth c Z own nm bytes maxL ret n0 T h cells slots) (hd : decode bytes pc = .ok (.ifCond cd o, 3)) (ho : 0 ≤ (pc : Int) + o ∧ ((pc : Int) + o).toNat = n') (hn : n = pc + 3)
    (Et : ifCond.holds cd x = true → Ends p e below s R n0 Q T (mkF m n' Ls st)) (Ef : ifCond.holds cd x = false → Ends p e below s R n0 Q T (mkF m n Ls st)) : Ends p e below s R n0 Q T (mkF m pc Ls (.int x :: st)) := by
  subst hn
  cases hq : ifCond.holds cd x with
  | true => exact (Et hq).via fun t k => XS.ifYes P.here P.hx rfl (pc0 := pc) (pc' := n') rfl (hb P.code hd) rfl hq ho.1 ho.2 k
  | false => exact (Ef hq).via fun t k => XS.ifNo P.here P.hx rfl (hb P.code hd) rfl hq k
theorem acmpB {cd : ACond} {o : Int} {x y : Value} {n' : Nat} (P : Pos p l e R s m args below meth c Z own nm bytes maxL ret n0 T h cells slots) (hd : decode bytes pc = .ok (.if_acmp cd o, 3)) (h1 : x.isRef = true) (h2 : y.isRef = true) (ho : 0 ≤ (pc : Int) + o ∧ ((pc : Int) + o).toNat = n') (hn : n = pc + 3)
    (Et : acV cd (decide (x = y)) = true → Ends p e below s R n0 Q T (mkF m n' Ls st)) (Ef : acV cd (decide (x = y)) = false → Ends p e below s R n0 Q T (mkF m n Ls st)) : Ends p e below s R n0 Q T (mkF m pc Ls (y :: x :: st)) := by
  subst hn
  obtain ⟨_, X, -⟩ := P.stand
  cases hq : acV cd (decide (x = y)) with
  | true => exact (Et hq).via fun t k => Jvm.RoadKit.acmp (g := mkF m pc Ls (y :: x :: st)) X P.hx rfl h1 h2 (pc0 := pc) (pc' := n') (same := decide (x = y)) rfl (hb P.code hd) rfl rfl ho.1 (by rw [hq]; simp [ho.2]) k
  | false => exact (Ef hq).via fun t k => Jvm.RoadKit.acmp (g := mkF m pc Ls (y :: x :: st)) X P.hx rfl h1 h2 (pc0 := pc) (pc' := pc + 3) (same := decide (x = y)) rfl (hb P.code hd) rfl rfl ho.1 (by rw [hq]; simp) k
/-! what the conditions say, in numbers -/
def cP (cd : ClassFile.Cond) (x y : Int) : Prop := match cd with | .eq => x = y | .ne => ¬ x = y | .lt => x < y | .ge => y ≤ x | .gt => y < x | .le => x ≤ y
theorem ii {cd : ClassFile.Cond} {x y : Int32} {b : Bool} (q : if_icmp.holds cd x y = b) : cP cd x.toInt y.toInt ↔ b = true := by
  subst q; cases cd <;> simp [cP, if_icmp.holds, Int32.lt_iff_toInt_lt, Int32.le_iff_toInt_le, Int32.toInt_inj]
theorem i0 {cd : ClassFile.Cond} {x : Int32} {b : Bool} (q : ifCond.holds cd x = b) : cP cd x.toInt 0 ↔ b = true := ii ((if0 cd x).symm.trans q)
theorem l0 {cd : ClassFile.Cond} {x y : Int64} {b : Bool} (q : ifCond.holds cd (lcmpW x y) = b) : cP cd x.toInt y.toInt ↔ b = true := by
  have h1 := i0 q
  obtain ⟨c1, c2, c3⟩ := c_lcmp x y
  rw [← h1]
  cases cd <;> simp only [cP] <;> (rcases Int.lt_trichotomy x.toInt y.toInt with g | g | g) <;> first | (have := c1 g; omega) | (have := c2 g; omega) | (have := c3 g; omega)
theorem icmp_eq {o : Int} {x y : Int32} {n' : Nat} (P : Pos p l e R s m args below meth c Z own nm bytes maxL ret n0 T h cells slots) (hd : decode bytes pc = .ok (.if_icmp .eq o, 3)) (ho : 0 ≤ (pc : Int) + o ∧ ((pc : Int) + o).toNat = n') (hn : n = pc + 3)
    (Et : x.toInt = y.toInt → Ends p e below s R n0 Q T (mkF m n' Ls st)) (Ef : ¬ x.toInt = y.toInt → Ends p e below s R n0 Q T (mkF m n Ls st)) : Ends p e below s R n0 Q T (mkF m pc Ls (.int y :: .int x :: st)) :=
  icmpB P hd ho hn (fun q => Et (by have := ii q; simp only [cP, iff_true] at this; exact this)) (fun q => Ef (by have := ii q; simp only [cP, Bool.false_eq_true, iff_false] at this; omega))
theorem if0_eq {o : Int} {x : Int32} {n' : Nat} (P : Pos p l e R s m args below meth c Z own nm bytes maxL ret n0 T h cells slots) (hd : decode bytes pc = .ok (.ifCond .eq o, 3)) (ho : 0 ≤ (pc : Int) + o ∧ ((pc : Int) + o).toNat = n') (hn : n = pc + 3)
    (Et : x.toInt = 0 → Ends p e below s R n0 Q T (mkF m n' Ls st)) (Ef : ¬ x.toInt = 0 → Ends p e below s R n0 Q T (mkF m n Ls st)) : Ends p e below s R n0 Q T (mkF m pc Ls (.int x :: st)) :=
  ifB P hd ho hn (fun q => Et (by have := i0 q; simp only [cP, iff_true] at this; exact this)) (fun q => Ef (by have := i0 q; simp only [cP, Bool.false_eq_true, iff_false] at this; omega))
theorem ifl_eq {o : Int} {x y : Int64} {n' : Nat} (P : Pos p l e R s m args below meth c Z own nm bytes maxL ret n0 T h cells slots) (hd : decode bytes pc = .ok (.ifCond .eq o, 3)) (ho : 0 ≤ (pc : Int) + o ∧ ((pc : Int) + o).toNat = n') (hn : n = pc + 3)
    (Et : x.toInt = y.toInt → Ends p e below s R n0 Q T (mkF m n' Ls st)) (Ef : ¬ x.toInt = y.toInt → Ends p e below s R n0 Q T (mkF m n Ls st)) : Ends p e below s R n0 Q T (mkF m pc Ls (.int (lcmpW x y) :: st)) :=
  ifB P hd ho hn (fun q => Et (by have := l0 q; simp only [cP, iff_true] at this; exact this)) (fun q => Ef (by have := l0 q; simp only [cP, Bool.false_eq_true, iff_false] at this; omega))
theorem icmp_ne {o : Int} {x y : Int32} {n' : Nat} (P : Pos p l e R s m args below meth c Z own nm bytes maxL ret n0 T h cells slots) (hd : decode bytes pc = .ok (.if_icmp .ne o, 3)) (ho : 0 ≤ (pc : Int) + o ∧ ((pc : Int) + o).toNat = n') (hn : n = pc + 3)
    (Et : ¬ x.toInt = y.toInt → Ends p e below s R n0 Q T (mkF m n' Ls st)) (Ef : x.toInt = y.toInt → Ends p e below s R n0 Q T (mkF m n Ls st)) : Ends p e below s R n0 Q T (mkF m pc Ls (.int y :: .int x :: st)) :=
  icmpB P hd ho hn (fun q => Et (by have := ii q; simp only [cP, iff_true] at this; exact this)) (fun q => Ef (by have := ii q; simp only [cP, Bool.false_eq_true, iff_false] at this; omega))
theorem if0_ne {o : Int} {x : Int32} {n' : Nat} (P : Pos p l e R s m args below meth c Z own nm bytes maxL ret n0 T h cells slots) (hd : decode bytes pc = .ok (.ifCond .ne o, 3)) (ho : 0 ≤ (pc : Int) + o ∧ ((pc : Int) + o).toNat = n') (hn : n = pc + 3)
    (Et : ¬ x.toInt = 0 → Ends p e below s R n0 Q T (mkF m n' Ls st)) (Ef : x.toInt = 0 → Ends p e below s R n0 Q T (mkF m n Ls st)) : Ends p e below s R n0 Q T (mkF m pc Ls (.int x :: st)) :=
  ifB P hd ho hn (fun q => Et (by have := i0 q; simp only [cP, iff_true] at this; exact this)) (fun q => Ef (by have := i0 q; simp only [cP, Bool.false_eq_true, iff_false] at this; omega))
theorem ifl_ne {o : Int} {x y : Int64} {n' : Nat} (P : Pos p l e R s m args below meth c Z own nm bytes maxL ret n0 T h cells slots) (hd : decode bytes pc = .ok (.ifCond .ne o, 3)) (ho : 0 ≤ (pc : Int) + o ∧ ((pc : Int) + o).toNat = n') (hn : n = pc + 3)
    (Et : ¬ x.toInt = y.toInt → Ends p e below s R n0 Q T (mkF m n' Ls st)) (Ef : x.toInt = y.toInt → Ends p e below s R n0 Q T (mkF m n Ls st)) : Ends p e below s R n0 Q T (mkF m pc Ls (.int (lcmpW x y) :: st)) :=
  ifB P hd ho hn (fun q => Et (by have := l0 q; simp only [cP, iff_true] at this; exact this)) (fun q => Ef (by have := l0 q; simp only [cP, Bool.false_eq_true, iff_false] at this; omega))
theorem icmp_lt {o : Int} {x y : Int32} {n' : Nat} (P : Pos p l e R s m args below meth c Z own nm bytes maxL ret n0 T h cells slots) (hd : decode bytes pc = .ok (.if_icmp .lt o, 3)) (ho : 0 ≤ (pc : Int) + o ∧ ((pc : Int) + o).toNat = n') (hn : n = pc + 3)
    (Et : x.toInt < y.toInt → Ends p e below s R n0 Q T (mkF m n' Ls st)) (Ef : y.toInt ≤ x.toInt → Ends p e below s R n0 Q T (mkF m n Ls st)) : Ends p e below s R n0 Q T (mkF m pc Ls (.int y :: .int x :: st)) :=
  icmpB P hd ho hn (fun q => Et (by have := ii q; simp only [cP, iff_true] at this; exact this)) (fun q => Ef (by have := ii q; simp only [cP, Bool.false_eq_true, iff_false] at this; omega))
theorem if0_lt {o : Int} {x : Int32} {n' : Nat} (P : Pos p l e R s m args below meth c Z own nm bytes maxL ret n0 T h cells slots) (hd : decode bytes pc = .ok (.ifCond .lt o, 3)) (ho : 0 ≤ (pc : Int) + o ∧ ((pc : Int) + o).toNat = n') (hn : n = pc + 3)
    (Et : x.toInt < 0 → Ends p e below s R n0 Q T (mkF m n' Ls st)) (Ef : 0 ≤ x.toInt → Ends p e below s R n0 Q T (mkF m n Ls st)) : Ends p e below s R n0 Q T (mkF m pc Ls (.int x :: st)) :=
  ifB P hd ho hn (fun q => Et (by have := i0 q; simp only [cP, iff_true] at this; exact this)) (fun q => Ef (by have := i0 q; simp only [cP, Bool.false_eq_true, iff_false] at this; omega))
theorem ifl_lt {o : Int} {x y : Int64} {n' : Nat} (P : Pos p l e R s m args below meth c Z own nm bytes maxL ret n0 T h cells slots) (hd : decode bytes pc = .ok (.ifCond .lt o, 3)) (ho : 0 ≤ (pc : Int) + o ∧ ((pc : Int) + o).toNat = n') (hn : n = pc + 3)
    (Et : x.toInt < y.toInt → Ends p e below s R n0 Q T (mkF m n' Ls st)) (Ef : y.toInt ≤ x.toInt → Ends p e below s R n0 Q T (mkF m n Ls st)) : Ends p e below s R n0 Q T (mkF m pc Ls (.int (lcmpW x y) :: st)) :=
  ifB P hd ho hn (fun q => Et (by have := l0 q; simp only [cP, iff_true] at this; exact this)) (fun q => Ef (by have := l0 q; simp only [cP, Bool.false_eq_true, iff_false] at this; omega))
theorem icmp_ge {o : Int} {x y : Int32} {n' : Nat} (P : Pos p l e R s m args below meth c Z own nm bytes maxL ret n0 T h cells slots) (hd : decode bytes pc = .ok (.if_icmp .ge o, 3)) (ho : 0 ≤ (pc : Int) + o ∧ ((pc : Int) + o).toNat = n') (hn : n = pc + 3)
    (Et : y.toInt ≤ x.toInt → Ends p e below s R n0 Q T (mkF m n' Ls st)) (Ef : x.toInt < y.toInt → Ends p e below s R n0 Q T (mkF m n Ls st)) : Ends p e below s R n0 Q T (mkF m pc Ls (.int y :: .int x :: st)) :=
  icmpB P hd ho hn (fun q => Et (by have := ii q; simp only [cP, iff_true] at this; exact this)) (fun q => Ef (by have := ii q; simp only [cP, Bool.false_eq_true, iff_false] at this; omega))
theorem if0_ge {o : Int} {x : Int32} {n' : Nat} (P : Pos p l e R s m args below meth c Z own nm bytes maxL ret n0 T h cells slots) (hd : decode bytes pc = .ok (.ifCond .ge o, 3)) (ho : 0 ≤ (pc : Int) + o ∧ ((pc : Int) + o).toNat = n') (hn : n = pc + 3)
    (Et : 0 ≤ x.toInt → Ends p e below s R n0 Q T (mkF m n' Ls st)) (Ef : x.toInt < 0 → Ends p e below s R n0 Q T (mkF m n Ls st)) : Ends p e below s R n0 Q T (mkF m pc Ls (.int x :: st)) :=
  ifB P hd ho hn (fun q => Et (by have := i0 q; simp only [cP, iff_true] at this; exact this)) (fun q => Ef (by have := i0 q; simp only [cP, Bool.false_eq_true, iff_false] at this; omega))
theorem ifl_ge {o : Int} {x y : Int64} {n' : Nat} (P : Pos p l e R s m args below meth c Z own nm bytes maxL ret n0 T h cells slots) (hd : decode bytes pc = .ok (.ifCond .ge o, 3)) (ho : 0 ≤ (pc : Int) + o ∧ ((pc : Int) + o).toNat = n') (hn : n = pc + 3)
    (Et : y.toInt ≤ x.toInt → Ends p e below s R n0 Q T (mkF m n' Ls st)) (Ef : x.toInt < y.toInt → Ends p e below s R n0 Q T (mkF m n Ls st)) : Ends p e below s R n0 Q T (mkF m pc Ls (.int (lcmpW x y) :: st)) :=
  ifB P hd ho hn (fun q => Et (by have := l0 q; simp only [cP, iff_true] at this; exact this)) (fun q => Ef (by have := l0 q; simp only [cP, Bool.false_eq_true, iff_false] at this; omega))
theorem icmp_gt {o : Int} {x y : Int32} {n' : Nat} (P : Pos p l e R s m args below meth c Z own nm bytes maxL ret n0 T h cells slots) (hd : decode bytes pc = .ok (.if_icmp .gt o, 3)) (ho : 0 ≤ (pc : Int) + o ∧ ((pc : Int) + o).toNat = n') (hn : n = pc + 3)
    (Et : y.toInt < x.toInt → Ends p e below s R n0 Q T (mkF m n' Ls st)) (Ef : x.toInt ≤ y.toInt → Ends p e below s R n0 Q T (mkF m n Ls st)) : Ends p e below s R n0 Q T (mkF m pc Ls (.int y :: .int x :: st)) :=
  icmpB P hd ho hn (fun q => Et (by have := ii q; simp only [cP, iff_true] at this; exact this)) (fun q => Ef (by have := ii q; simp only [cP, Bool.false_eq_true, iff_false] at this; omega))
theorem if0_gt {o : Int} {x : Int32} {n' : Nat} (P : Pos p l e R s m args below meth c Z own nm bytes maxL ret n0 T h cells slots) (hd : decode bytes pc = .ok (.ifCond .gt o, 3)) (ho : 0 ≤ (pc : Int) + o ∧ ((pc : Int) + o).toNat = n') (hn : n = pc + 3)
    (Et : 0 < x.toInt → Ends p e below s R n0 Q T (mkF m n' Ls st)) (Ef : x.toInt ≤ 0 → Ends p e below s R n0 Q T (mkF m n Ls st)) : Ends p e below s R n0 Q T (mkF m pc Ls (.int x :: st)) :=
  ifB P hd ho hn (fun q => Et (by have := i0 q; simp only [cP, iff_true] at this; exact this)) (fun q => Ef (by have := i0 q; simp only [cP, Bool.false_eq_true, iff_false] at this; omega))
theorem ifl_gt {o : Int} {x y : Int64} {n' : Nat} (P : Pos p l e R s m args below meth c Z own nm bytes maxL ret n0 T h cells slots) (hd : decode bytes pc = .ok (.ifCond .gt o, 3)) (ho : 0 ≤ (pc : Int) + o ∧ ((pc : Int) + o).toNat = n') (hn : n = pc + 3)
    (Et : y.toInt < x.toInt → Ends p e below s R n0 Q T (mkF m n' Ls st)) (Ef : x.toInt ≤ y.toInt → Ends p e below s R n0 Q T (mkF m n Ls st)) : Ends p e below s R n0 Q T (mkF m pc Ls (.int (lcmpW x y) :: st)) :=
  ifB P hd ho hn (fun q => Et (by have := l0 q; simp only [cP, iff_true] at this; exact this)) (fun q => Ef (by have := l0 q; simp only [cP, Bool.false_eq_true, iff_false] at this; omega))
theorem icmp_le {o : Int} {x y : Int32} {n' : Nat} (P : Pos p l e R s m args below meth c Z own nm bytes maxL ret n0 T h cells slots) (hd : decode bytes pc = .ok (.if_icmp .le o, 3)) (ho : 0 ≤ (pc : Int) + o ∧ ((pc : Int) + o).toNat = n') (hn : n = pc + 3)
    (Et : x.toInt ≤ y.toInt → Ends p e below s R n0 Q T (mkF m n' Ls st)) (Ef : y.toInt < x.toInt → Ends p e below s R n0 Q T (mkF m n Ls st)) : Ends p e below s R n0 Q T (mkF m pc Ls (.int y :: .int x :: st)) :=
  icmpB P hd ho hn (fun q => Et (by have := ii q; simp only [cP, iff_true] at this; exact this)) (fun q => Ef (by have := ii q; simp only [cP, Bool.false_eq_true, iff_false] at this; omega))
theorem if0_le {o : Int} {x : Int32} {n' : Nat} (P : Pos p l e R s m args below meth c Z own nm bytes maxL ret n0 T h cells slots) (hd : decode bytes pc = .ok (.ifCond .le o, 3)) (ho : 0 ≤ (pc : Int) + o ∧ ((pc : Int) + o).toNat = n') (hn : n = pc + 3)
    (Et : x.toInt ≤ 0 → Ends p e below s R n0 Q T (mkF m n' Ls st)) (Ef : 0 < x.toInt → Ends p e below s R n0 Q T (mkF m n Ls st)) : Ends p e below s R n0 Q T (mkF m pc Ls (.int x :: st)) :=
  ifB P hd ho hn (fun q => Et (by have := i0 q; simp only [cP, iff_true] at this; exact this)) (fun q => Ef (by have := i0 q; simp only [cP, Bool.false_eq_true, iff_false] at this; omega))
theorem ifl_le {o : Int} {x y : Int64} {n' : Nat} (P : Pos p l e R s m args below meth c Z own nm bytes maxL ret n0 T h cells slots) (hd : decode bytes pc = .ok (.ifCond .le o, 3)) (ho : 0 ≤ (pc : Int) + o ∧ ((pc : Int) + o).toNat = n') (hn : n = pc + 3)
    (Et : x.toInt ≤ y.toInt → Ends p e below s R n0 Q T (mkF m n' Ls st)) (Ef : y.toInt < x.toInt → Ends p e below s R n0 Q T (mkF m n Ls st)) : Ends p e below s R n0 Q T (mkF m pc Ls (.int (lcmpW x y) :: st)) :=
  ifB P hd ho hn (fun q => Et (by have := l0 q; simp only [cP, iff_true] at this; exact this)) (fun q => Ef (by have := l0 q; simp only [cP, Bool.false_eq_true, iff_false] at this; omega))
theorem aT {x y : Value} (q : acV .eq (decide (x = y)) = true) : x = y := by simpa [acV] using q
theorem aF {x y : Value} (q : acV .eq (decide (x = y)) = false) : ¬ x = y := by simpa [acV] using q
theorem nT {x y : Value} (q : acV .ne (decide (x = y)) = true) : ¬ x = y := by simpa [acV] using q
theorem nF {x y : Value} (q : acV .ne (decide (x = y)) = false) : x = y := by simpa [acV] using q
/-! constants, statics, fields, objects -/
theorem ldcI {index : Nat} {v : Int32} (P : Pos p l e R s m args below meth c Z own nm bytes maxL ret n0 T h cells slots) (hd : decode bytes pc = .ok (.ldc index, 2)) (w : (Cond.constant own index v).before a0 Z = true) (hn : n = pc + 2) (E : Ends p e below s R n0 Q T (mkF m n Ls (.int v :: st))) : Ends p e below s R n0 Q T (mkF m pc Ls st) := by
  subst hn; obtain ⟨_, X, -⟩ := P.stand
  exact E.via fun t k => X.ldcInt P.hx P.own' (mvT P.hZ w) (g := mkF m pc Ls st) rfl (hb P.code hd) t k
theorem ldc2J {index : Nat} {v : Int64} (P : Pos p l e R s m args below meth c Z own nm bytes maxL ret n0 T h cells slots) (hd : decode bytes pc = .ok (.ldc2_w index, 3)) (w : (Cond.constantLong own index v).before a0 Z = true) (hn : n = pc + 3) (E : Ends p e below s R n0 Q T (mkF m n Ls (.long v :: st))) : Ends p e below s R n0 Q T (mkF m pc Ls st) := by
  subst hn; obtain ⟨_, X, -⟩ := P.stand
  exact E.via fun t k => X.ldc2Long P.hx P.own' (mvT P.hZ w) (g := mkF m pc Ls st) rfl (hb P.code hd) t k
theorem getS {index : Nat} {O f d : String} {v : Value} (P : Pos p l e R s m args below meth c Z own nm bytes maxL ret n0 T h cells slots) (hd : decode bytes pc = .ok (.getstatic index, 3)) (w : (Cond.fieldLink own index O f d).before a0 Z = true) (F : Sta Z h O f d v) (hn : n = pc + 3)
    (E : ∀ T, Pos p l e R s m args below meth c Z own nm bytes maxL ret n0 T h cells slots → Ends p e below s R n0 Q T (mkF m n Ls (v :: st))) : Ends p e below s R n0 Q T (mkF m pc Ls st) := by
  subst hn; obtain ⟨_, X, N⟩ := P.stand
  obtain ⟨T', X', e', k⟩ := Jvm.RoadKit.getS (host := "") X P.hx P.hZ P.own' w Via.refl P.heap F (g := mkF m pc Ls st) rfl (hb P.code hd)
  exact (E T' (P.to X' N e')).via k
theorem getF {index : Nat} {O f d : String} {v : Value} {a : Addr} (P : Pos p l e R s m args below meth c Z own nm bytes maxL ret n0 T h cells slots) (hd : decode bytes pc = .ok (.getfield index, 3)) (w : (Cond.fieldLink own index O f d).before a0 Z = true) (F : Fld Z h a O f d v) (hn : n = pc + 3)
    (E : ∀ T, Pos p l e R s m args below meth c Z own nm bytes maxL ret n0 T h cells slots → Ends p e below s R n0 Q T (mkF m n Ls (v :: st))) : Ends p e below s R n0 Q T (mkF m pc Ls (.ref a :: st)) := by
  subst hn; obtain ⟨_, X, N⟩ := P.stand
  obtain ⟨T', X', e', k⟩ := Jvm.RoadKit.getF (host := "") X P.hx P.hZ P.own' (Or.inl w) Via.refl P.heap F (g := mkF m pc Ls (.ref a :: st)) rfl rfl (hb P.code hd)
  exact (E T' (P.to X' N e')).via k
theorem putF {index kk : Nat} {O f d C : String} {v old : Value} {a : Addr} {ty : FieldType} (P : Pos p l e R s m args below meth c Z own nm bytes maxL ret n0 T h cells slots) (hd : decode bytes pc = .ok (.putfield index, 3)) (w : (Cond.fieldLink own index O f d).before a0 Z = true) (F : Fld Z h a O f d old) (X0 : Exa Z h a C)
    (L : (Cond.lays C O f d).before a0 Z = true ∨ ((Cond.laysFinal C O f d).before a0 Z = true ∧ own = O ∧ nm = "<init>")) (wi : (Cond.instantiable C kk).before a0 Z = true) (hty : parseFieldDescriptor d = some ty) (hnw : narrow ty v = v) (hf : fits ty v = true) (ha : n0 ≤ a) (hn : n = pc + 3)
    (E : ∀ T h', Pos p l e R s m args below meth c Z own nm bytes maxL ret n0 T h' cells slots → Wr h h' a (Jvm.RoadKit.slotOf Z O f d) v → Ends p e below s R n0 Q T (mkF m n Ls st)) : Ends p e below s R n0 Q T (mkF m pc Ls (v :: .ref a :: st)) := by
  subst hn; obtain ⟨_, X, N⟩ := P.stand
  obtain ⟨T', h', X', e', W, k⟩ := Jvm.RoadKit.putF (host := "") X P.hx P.hZ P.own' (Or.inl w) Via.refl P.heap F X0 (L.imp id fun q => ⟨q.1, q.2.1, P.name.trans q.2.2⟩) wi hty hnw hf (g := mkF m pc Ls (v :: .ref a :: st)) rfl rfl (hb P.code hd)
  exact (E T' h' (P.to X' (Fr.snoc X' N ha) e') W).via k
theorem newO {index k : Nat} {C : String} (P : Pos p l e R s m args below meth c Z own nm bytes maxL ret n0 T h cells slots) (hd : decode bytes pc = .ok (.new index, 3)) (w : (Cond.classLink own index C).before a0 Z = true) (wi : (Cond.instantiable C k).before a0 Z = true) (wz : (Cond.initialized C).before a0 Z = true) (hc : cells + 1 ≤ R.cells) (hl : slots + k ≤ R.slots) (hn : n = pc + 3)
    (E : ∀ T h' a, Pos p l e R s m args below meth c Z own nm bytes maxL ret n0 T h' (cells + 1) (slots + k) → Ext h h' → a = h.size → n0 ≤ a → Exa Z h' a C → (∀ {O f d : String} {ty : FieldType}, Laid Z a0 C O f d → parseFieldDescriptor d = some ty → Fld Z h' a O f d (defaultValue ty)) → Ends p e below s R n0 Q T (mkF m n Ls (.ref a :: st))) : Ends p e below s R n0 Q T (mkF m pc Ls st) := by
  subst hn; obtain ⟨_, X, N⟩ := P.stand
  obtain ⟨T', h', X', e', Ex, A, D, -, kk⟩ := Jvm.RoadKit.newO X P.hx P.hZ P.own' w wi wz P.heap (g := mkF m pc Ls st) rfl (hb P.code hd) hc hl
  exact (E T' h' _ (P.to X' N e') Ex rfl P.low A D).via kk
theorem initO {index : Nat} {a : Addr} (P : Pos p l e R s m args below meth c Z own nm bytes maxL ret n0 T h cells slots) (hd : decode bytes pc = .ok (.invokespecial index, 3)) (w1 : (Cond.methodLink own index Lib.objectInit).before a0 Z = true) (w2 : (Cond.instanceMethod Lib.objectInit).before a0 Z = true) (w3 : (Cond.code Lib.objectInit ⟨#[0xb1]⟩ 1 none).before a0 Z = true) (hsz : Ls.size = maxL)
    (hf : 1 ≤ R.frames) (hl : (st.map fun v => v.category).sum + 12 ≤ R.locals) (hn : n = pc + 3) (E : ∀ T, Pos p l e R s m args below meth c Z own nm bytes maxL ret n0 T h cells slots → Ends p e below s R n0 Q T (mkF m n Ls st)) : Ends p e below s R n0 Q T (mkF m pc Ls (.ref a :: st)) := by
  subst hn; obtain ⟨_, X, N⟩ := P.stand
  obtain ⟨T', X', e', k⟩ := Jvm.RoadKit.initO X P.hx P.hZ P.own' w1 w2 w3 P.heap (g := mkF m pc Ls (.ref a :: st)) rfl (hsz.trans P.maxl.symm) rfl (hb P.code hd) hf (W := (st.map fun v => v.category).sum) (by show 2 * 0 + _ ≤ _; omega) hl
  exact (E T' (P.to X' N e')).via k
/-! arrays: a length and what each place holds -/
def AR (Z : State) (h : Heap) (a : Addr) (ty : FieldType) (k : Nat) (f : Nat → Value) : Prop := ∃ cl : Cell, Arr Z h a cl ty ∧ cl.slots.size = k ∧ k < 2 ^ 31 ∧ ∀ i, i < k → cl.slots[i]? = some (f i)
/-- one place changed -/
def ovr {α : Type} (g : Nat → α) (i : Nat) (x : α) : Nat → α := fun j => if j = i then x else g j
theorem ovr_at {α : Type} (g : Nat → α) (i : Nat) (x : α) : ovr g i x i = x := by simp [ovr]
theorem ovr_ne {α : Type} (g : Nat → α) {i j : Nat} (x : α) (q : j ≠ i) : ovr g i x j = g j := by simp [ovr, q]
abbrev ARI (Z : State) (h : Heap) (a : Addr) (ty : FieldType) (k : Nat) (g : Nat → Int32) : Prop := AR Z h a ty k (fun i => .int (g i))
abbrev ARJ (Z : State) (h : Heap) (a : Addr) (k : Nat) (g : Nat → Int64) : Prop := AR Z h a .long k (fun i => .long (g i))
variable {a b : Addr} {ty : FieldType} {k : Nat} {f : Nat → Value}
theorem AR.lt (A : AR Z h a ty k f) : a < h.size := by obtain ⟨_, B, -⟩ := A; exact B.lt
theorem AR.len (A : AR Z h a ty k f) : k < 2 ^ 31 := by obtain ⟨_, _, _, r, _⟩ := A; exact r
theorem AR.ext (A : AR Z h a ty k f) (E : Ext h h') : AR Z h' a ty k f := by obtain ⟨cl, B, r⟩ := A; exact ⟨cl, B.ext E, r⟩
theorem AR.other {sl : Nat} {v : Value} (A : AR Z h b ty k f) (W : Wr h h' a sl v) (q : b ≠ a) : AR Z h' b ty k f := by obtain ⟨cl, B, r⟩ := A; exact ⟨cl, B.other W q, r⟩
theorem AR.keep {ws : List Addr} (A : AR Z h a ty k f) (K : Keep h h' ws) (q : a ∉ ws) : AR Z h' a ty k f := by obtain ⟨cl, B, r⟩ := A; exact ⟨cl, ⟨K.2.1 a cl B.1 q, B.2⟩, r⟩
theorem AR.congr {g : Nat → Value} (A : AR Z h a ty k f) (q : ∀ i, i < k → f i = g i) : AR Z h a ty k g := by obtain ⟨cl, B, r1, r2, r3⟩ := A; exact ⟨cl, B, r1, r2, fun i hi => by rw [r3 i hi, q i hi]⟩
theorem AR.set {i : Nat} {v : Value} (A : AR Z h a ty k f) (W : Wr h h' a i v) : AR Z h' a ty k (ovr f i v) := by
  obtain ⟨cl, B, r1, r2, r3⟩ := A
  refine ⟨_, B.same W, by rw [sz_set]; exact r1, r2, fun j hj => ?_⟩
  by_cases u : j = i
  · subst u; simp [Cell.setSlot, r1, hj, ovr]
  · simp only [Cell.setSlot, ovr, if_neg u]
    rw [Array.getElem?_setIfInBounds_ne (Ne.symm u)]; exact r3 j hj
theorem ARI.set {g : Nat → Int32} {i : Nat} {x : Int32} (A : ARI Z h a ty k g) (W : Wr h h' a i (.int x)) : ARI Z h' a ty k (ovr g i x) := by
  refine (AR.set A W).congr fun j _ => ?_
  by_cases u : j = i <;> simp [ovr, u]
theorem ARJ.set {g : Nat → Int64} {i : Nat} {x : Int64} (A : ARJ Z h a k g) (W : Wr h h' a i (.long x)) : ARJ Z h' a k (ovr g i x) := by
  refine (AR.set A W).congr fun j _ => ?_
  by_cases u : j = i <;> simp [ovr, u]
theorem inA {j : Int32} {i : Nat} {cl : Cell} (q : j.toInt = i ∧ i < k) (e : cl.slots.size = k) : ¬ (j < 0 ∨ cl.slots.size ≤ j.toNatClampNeg) ∧ j.toNatClampNeg = i := by
  have e0 : (0 : Int32).toInt = 0 := rfl
  simp only [Int32.lt_iff_toInt_lt, Int32.toNatClampNeg, e, e0]; omega
theorem newP {aty : ArrayType} {x : Int32} {cap : Nat} (P : Pos p l e R s m args below meth c Z own nm bytes maxL ret n0 T h cells slots) (hd : decode bytes pc = .ok (.newarray aty, 2)) (w : (Cond.arrayClass (newarray.typeOf aty)).before a0 Z = true) (hx : x.toInt = k ∧ k ≤ cap) (hb' : cap * 8 ≤ 536870912) (hc : cells + 1 ≤ R.cells ∧ slots + cap ≤ R.slots) (hn : n = pc + 2)
    (E : ∀ T h' a, Pos p l e R s m args below meth c Z own nm bytes maxL ret n0 T h' (cells + 1) (slots + cap) → Ext h h' → a = h.size → n0 ≤ a → AR Z h' a (newarray.typeOf aty) k (fun _ => defaultValue (newarray.typeOf aty)) → Ends p e below s R n0 Q T (mkF m n Ls (.ref a :: st))) : Ends p e below s R n0 Q T (mkF m pc Ls (.int x :: st)) := by
  subst hn; obtain ⟨_, X, N⟩ := P.stand
  have e0 : (0 : Int32).toInt = 0 := rfl
  have q1 : ¬ x < 0 := by rw [Int32.lt_iff_toInt_lt, e0]; omega
  have q2 : x.toNatClampNeg = k := by simp only [Int32.toNatClampNeg]; omega
  obtain ⟨T', h', cA, X', e', Ex, A, kk⟩ := Jvm.RoadKit.newP X P.hx P.hZ w P.heap (g := mkF m pc Ls (.int x :: st)) rfl (hb P.code hd) rfl q1 (cap := cap) (by omega) hb' hc.1 hc.2
  refine (E T' h' _ (P.to X' N e') Ex rfl P.low ⟨_, A, (sz_new _ _ _).trans q2, by have := rng32 x; omega, fun i hi => ?_⟩).via kk
  rw [← q2] at hi
  simp [newA, hi]
theorem ldA {i : Instr} {j : Int32} {u : Nat} {v : Value} (P : Pos p l e R s m args below meth c Z own nm bytes maxL ret n0 T h cells slots) (hd : decode bytes pc = .ok (i, 1)) (A : AR Z h a ty k f) (hi : (i = .baload ∧ (ty = .byte ∨ ty = .boolean)) ∨ (i = .iaload ∧ ty = .int) ∨ (i = .laload ∧ ty = .long) ∨ (i = .caload ∧ ty = .char) ∨ (i = .aaload ∧ ty.isReference = true)) (hj : j.toInt = u ∧ u < k) (hv : v = f u) (hn : n = pc + 1)
    (E : Ends p e below s R n0 Q T (mkF m n Ls (v :: st))) : Ends p e below s R n0 Q T (mkF m pc Ls (.int j :: .ref a :: st)) := by
  subst hn hv; obtain ⟨_, X, N⟩ := P.stand
  obtain ⟨cl, B, r1, r2, r3⟩ := A
  obtain ⟨q1, q5⟩ := inA hj r1
  have q2 : cl.slots[j.toNatClampNeg]? = some (f u) := by rw [q5]; exact r3 _ hj.2
  have q3 : T.heap[a]? = some cl := by rw [P.heap]; exact B.1
  have q4 := State.isArrayOf_alike (T := s) P.hZ.alike B.2.1
  rcases hi with ⟨rfl, rfl | rfl⟩ | ⟨rfl, rfl⟩ | ⟨rfl, rfl⟩ | ⟨rfl, rfl⟩ | ⟨rfl, ht⟩
  · exact E.via fun t k => X.baloadBytes P.hx q3 q4 B.2.2 q1 q2 (g := mkF m pc Ls (.int j :: .ref a :: st)) rfl rfl (hb P.code hd) t k
  · exact E.via fun t k => X.baloadBooleans P.hx q3 q4 B.2.2 q1 q2 (g := mkF m pc Ls (.int j :: .ref a :: st)) rfl rfl (hb P.code hd) t k
  · exact E.via fun t k => X.iaload P.hx q3 q4 B.2.2 q1 q2 (g := mkF m pc Ls (.int j :: .ref a :: st)) rfl rfl (hb P.code hd) t k
  · exact E.via fun t k => X.laload P.hx q3 q4 B.2.2 q1 q2 (g := mkF m pc Ls (.int j :: .ref a :: st)) rfl rfl (hb P.code hd) t k
  · exact E.via fun t k => X.caload P.hx q3 q4 B.2.2 q1 q2 (g := mkF m pc Ls (.int j :: .ref a :: st)) rfl rfl (hb P.code hd) t k
  · exact E.via fun t k => X.aaload P.hx q3 q4 ht B.2.2 q1 q2 (g := mkF m pc Ls (.int j :: .ref a :: st)) rfl rfl (hb P.code hd) t k
theorem baloadI {j : Int32} {u : Nat} {g : Nat → Int32} (P : Pos p l e R s m args below meth c Z own nm bytes maxL ret n0 T h cells slots) (hd : decode bytes pc = .ok (.baload, 1)) (A : ARI Z h a .byte k g) (hj : j.toInt = u ∧ u < k) (hn : n = pc + 1) (E : Ends p e below s R n0 Q T (mkF m n Ls (.int (g u) :: st))) : Ends p e below s R n0 Q T (mkF m pc Ls (.int j :: .ref a :: st)) := ldA P hd A (Or.inl ⟨rfl, Or.inl rfl⟩) hj rfl hn E
theorem zaloadI {j : Int32} {u : Nat} {g : Nat → Int32} (P : Pos p l e R s m args below meth c Z own nm bytes maxL ret n0 T h cells slots) (hd : decode bytes pc = .ok (.baload, 1)) (A : ARI Z h a .boolean k g) (hj : j.toInt = u ∧ u < k) (hn : n = pc + 1) (E : Ends p e below s R n0 Q T (mkF m n Ls (.int (g u) :: st))) : Ends p e below s R n0 Q T (mkF m pc Ls (.int j :: .ref a :: st)) := ldA P hd A (Or.inl ⟨rfl, Or.inr rfl⟩) hj rfl hn E
theorem ialoadI {j : Int32} {u : Nat} {g : Nat → Int32} (P : Pos p l e R s m args below meth c Z own nm bytes maxL ret n0 T h cells slots) (hd : decode bytes pc = .ok (.iaload, 1)) (A : ARI Z h a .int k g) (hj : j.toInt = u ∧ u < k) (hn : n = pc + 1) (E : Ends p e below s R n0 Q T (mkF m n Ls (.int (g u) :: st))) : Ends p e below s R n0 Q T (mkF m pc Ls (.int j :: .ref a :: st)) := ldA P hd A (Or.inr (Or.inl ⟨rfl, rfl⟩)) hj rfl hn E
theorem laloadJ {j : Int32} {u : Nat} {g : Nat → Int64} (P : Pos p l e R s m args below meth c Z own nm bytes maxL ret n0 T h cells slots) (hd : decode bytes pc = .ok (.laload, 1)) (A : ARJ Z h a k g) (hj : j.toInt = u ∧ u < k) (hn : n = pc + 1) (E : Ends p e below s R n0 Q T (mkF m n Ls (.long (g u) :: st))) : Ends p e below s R n0 Q T (mkF m pc Ls (.int j :: .ref a :: st)) := ldA P hd A (Or.inr (Or.inr (Or.inl ⟨rfl, rfl⟩))) hj rfl hn E
theorem alen {x : Int32} (P : Pos p l e R s m args below meth c Z own nm bytes maxL ret n0 T h cells slots) (hd : decode bytes pc = .ok (.arraylength, 1)) (A : AR Z h a ty k f) (hx : x.toInt = k) (hn : n = pc + 1)
    (E : Ends p e below s R n0 Q T (mkF m n Ls (.int x :: st))) : Ends p e below s R n0 Q T (mkF m pc Ls (.ref a :: st)) := by
  subst hn; obtain ⟨_, X, N⟩ := P.stand
  obtain ⟨cl, B, r1, r2, r3⟩ := A
  have q4 := State.isArrayOf_alike (T := s) P.hZ.alike B.2.1
  have q5 : cl.slots.size.toInt32 = x := by rw [← Int32.toInt_inj, len_toInt (by omega), r1, hx]
  exact E.via fun t k => X.arraylength P.hx (by rw [P.heap]; exact B.1) q4 (g := mkF m pc Ls (.ref a :: st)) rfl rfl (hb P.code hd) t (by rw [q5]; exact k)
theorem stI {j : Int32} {u : Nat} {x : Int32} (P : Pos p l e R s m args below meth c Z own nm bytes maxL ret n0 T h cells slots) (hd : decode bytes pc = .ok (.iastore, 1)) (A : AR Z h a .int k f) (hj : j.toInt = u ∧ u < k) (ha : n0 ≤ a) (hn : n = pc + 1)
    (E : ∀ T h', Pos p l e R s m args below meth c Z own nm bytes maxL ret n0 T h' cells slots → Wr h h' a u (.int (x)) → Ends p e below s R n0 Q T (mkF m n Ls st)) : Ends p e below s R n0 Q T (mkF m pc Ls (.int x :: .int j :: .ref a :: st)) := by
  subst hn; obtain ⟨_, X, N⟩ := P.stand
  obtain ⟨cl, B, r1, r2, r3⟩ := A
  obtain ⟨q1, q5⟩ := inA hj r1
  obtain ⟨T', h', X', e', W, kk⟩ := Jvm.RoadKit.stI X P.hx P.hZ P.heap B q1 (g := mkF m pc Ls (.int x :: .int j :: .ref a :: st)) rfl rfl (hb P.code hd)
  rw [q5] at W X'
  refine (E T' h' (P.to X' (Fr.snoc X' N ha) e') ?_).via kk
  exact W
theorem stJ {j : Int32} {u : Nat} {x : Int64} (P : Pos p l e R s m args below meth c Z own nm bytes maxL ret n0 T h cells slots) (hd : decode bytes pc = .ok (.lastore, 1)) (A : AR Z h a .long k f) (hj : j.toInt = u ∧ u < k) (ha : n0 ≤ a) (hn : n = pc + 1)
    (E : ∀ T h', Pos p l e R s m args below meth c Z own nm bytes maxL ret n0 T h' cells slots → Wr h h' a u (.long (x)) → Ends p e below s R n0 Q T (mkF m n Ls st)) : Ends p e below s R n0 Q T (mkF m pc Ls (.long x :: .int j :: .ref a :: st)) := by
  subst hn; obtain ⟨_, X, N⟩ := P.stand
  obtain ⟨cl, B, r1, r2, r3⟩ := A
  obtain ⟨q1, q5⟩ := inA hj r1
  obtain ⟨T', h', X', e', W, kk⟩ := Jvm.RoadKit.stJ X P.hx P.hZ P.heap B q1 (g := mkF m pc Ls (.long x :: .int j :: .ref a :: st)) rfl rfl (hb P.code hd)
  rw [q5] at W X'
  refine (E T' h' (P.to X' (Fr.snoc X' N ha) e') ?_).via kk
  exact W
theorem stB {j : Int32} {u : Nat} {x : Int32} (P : Pos p l e R s m args below meth c Z own nm bytes maxL ret n0 T h cells slots) (hd : decode bytes pc = .ok (.bastore, 1)) (A : AR Z h a .byte k f) (hj : j.toInt = u ∧ u < k) (ha : n0 ≤ a) (hn : n = pc + 1)
    (E : ∀ T h', Pos p l e R s m args below meth c Z own nm bytes maxL ret n0 T h' cells slots → Wr h h' a u (.int (x.toInt8.toInt32)) → Ends p e below s R n0 Q T (mkF m n Ls st)) : Ends p e below s R n0 Q T (mkF m pc Ls (.int x :: .int j :: .ref a :: st)) := by
  subst hn; obtain ⟨_, X, N⟩ := P.stand
  obtain ⟨cl, B, r1, r2, r3⟩ := A
  obtain ⟨q1, q5⟩ := inA hj r1
  obtain ⟨T', h', X', e', W, kk⟩ := Jvm.RoadKit.stB X P.hx P.hZ P.heap B q1 (g := mkF m pc Ls (.int x :: .int j :: .ref a :: st)) rfl rfl (hb P.code hd)
  rw [q5] at W X'
  refine (E T' h' (P.to X' (Fr.snoc X' N ha) e') ?_).via kk
  exact W
theorem stZ {j : Int32} {u : Nat} {x : Int32} (P : Pos p l e R s m args below meth c Z own nm bytes maxL ret n0 T h cells slots) (hd : decode bytes pc = .ok (.bastore, 1)) (A : AR Z h a .boolean k f) (hj : j.toInt = u ∧ u < k) (ha : n0 ≤ a) (hz : x = 0 ∨ x = 1) (hn : n = pc + 1)
    (E : ∀ T h', Pos p l e R s m args below meth c Z own nm bytes maxL ret n0 T h' cells slots → Wr h h' a u (.int (x)) → Ends p e below s R n0 Q T (mkF m n Ls st)) : Ends p e below s R n0 Q T (mkF m pc Ls (.int x :: .int j :: .ref a :: st)) := by
  subst hn; obtain ⟨_, X, N⟩ := P.stand
  obtain ⟨cl, B, r1, r2, r3⟩ := A
  obtain ⟨q1, q5⟩ := inA hj r1
  obtain ⟨T', h', X', e', W, kk⟩ := Jvm.RoadKit.stZ X P.hx P.hZ P.heap B q1 (g := mkF m pc Ls (.int x :: .int j :: .ref a :: st)) rfl rfl (hb P.code hd)
  rw [q5] at W X'
  refine (E T' h' (P.to X' (Fr.snoc X' N ha) e') ?_).via kk
  rcases hz with rfl | rfl <;> exact W
theorem stC {j : Int32} {u : Nat} {x : Int32} (P : Pos p l e R s m args below meth c Z own nm bytes maxL ret n0 T h cells slots) (hd : decode bytes pc = .ok (.castore, 1)) (A : AR Z h a .char k f) (hj : j.toInt = u ∧ u < k) (ha : n0 ≤ a) (hn : n = pc + 1)
    (E : ∀ T h', Pos p l e R s m args below meth c Z own nm bytes maxL ret n0 T h' cells slots → Wr h h' a u (.int (nar .char x)) → Ends p e below s R n0 Q T (mkF m n Ls st)) : Ends p e below s R n0 Q T (mkF m pc Ls (.int x :: .int j :: .ref a :: st)) := by
  subst hn; obtain ⟨_, X, N⟩ := P.stand
  obtain ⟨cl, B, r1, r2, r3⟩ := A
  obtain ⟨q1, q5⟩ := inA hj r1
  obtain ⟨T', h', X', e', W, kk⟩ := Jvm.RoadKit.stC X P.hx P.hZ P.heap B q1 (g := mkF m pc Ls (.int x :: .int j :: .ref a :: st)) rfl rfl (hb P.code hd)
  rw [q5] at W X'
  exact (E T' h' (P.to X' (Fr.snoc X' N ha) e') W).via kk
/-- the library's form of an array -/
theorem AR.arv {vs : List Value} {dv : Value} {N : Int32} (A : AR Z h a ty k f) (hN : N.toInt = k) (hv : ∀ i, i < k → f i = vs.getD i dv) (hf : ∀ i, i < k → fits ty (vs.getD i dv) = true) : ∃ kC, Arv Z h a kC ty N vs dv := by
  obtain ⟨cl, B, r1, r2, r3⟩ := A
  have e0 : (0 : Int32).toInt = 0 := rfl
  refine ⟨cl.cls, cl, B, rfl, by rw [r1]; simp only [Int32.toNatClampNeg]; omega, by rw [Int32.lt_iff_toInt_lt, e0]; omega, fun i hi => ?_, fun i hi => hf i (r1 ▸ hi)⟩
  rw [r1] at hi; rw [r3 i hi, hv i hi]
/-! arrays of references -/
def ARC (Z : State) (h : Heap) (a : Addr) (C : String) (k : Nat) (f : Nat → Value) : Prop := ∃ cl : Cell, Arr Z h a cl (.object C) ∧ cl.slots.size = k ∧ k < 2 ^ 31 ∧ (∀ i, i < k → cl.slots[i]? = some (f i)) ∧ Ovr Z cl.cls C
theorem ARC.ar {C : String} (A : ARC Z h a C k f) : AR Z h a (.object C) k f := by obtain ⟨cl, B, r1, r2, r3, -⟩ := A; exact ⟨cl, B, r1, r2, r3⟩
theorem ARC.lt {C : String} (A : ARC Z h a C k f) : a < h.size := A.ar.lt
theorem ARC.ext {C : String} (A : ARC Z h a C k f) (E : Ext h h') : ARC Z h' a C k f := by obtain ⟨cl, B, r⟩ := A; exact ⟨cl, B.ext E, r⟩
theorem ARC.other {C : String} {sl : Nat} {v : Value} (A : ARC Z h b C k f) (W : Wr h h' a sl v) (q : b ≠ a) : ARC Z h' b C k f := by obtain ⟨cl, B, r⟩ := A; exact ⟨cl, B.other W q, r⟩
theorem ARC.set {C : String} {i : Nat} {v : Value} (A : ARC Z h a C k f) (W : Wr h h' a i v) : ARC Z h' a C k (ovr f i v) := by
  obtain ⟨cl, B, r1, r2, r3, r4⟩ := A
  refine ⟨_, B.same W, by rw [sz_set]; exact r1, r2, fun j hj => ?_, r4⟩
  by_cases u : j = i
  · subst u; simp [Cell.setSlot, r1, hj, ovr]
  · simp only [Cell.setSlot, ovr, if_neg u]
    rw [Array.getElem?_setIfInBounds_ne (Ne.symm u)]; exact r3 j hj
theorem newR {index : Nat} {C : String} {x : Int32} {cap : Nat} (P : Pos p l e R s m args below meth c Z own nm bytes maxL ret n0 T h cells slots) (hd : decode bytes pc = .ok (.anewarray index, 3)) (w1 : (Cond.classLink own index C).before a0 Z = true) (w2 : (Cond.arrayOver (.object C)).before a0 Z = true) (hx : x.toInt = k ∧ k ≤ cap) (hb' : cap * 8 ≤ 536870912) (hc : cells + 1 ≤ R.cells ∧ slots + cap ≤ R.slots) (hn : n = pc + 3)
    (E : ∀ T h' a, Pos p l e R s m args below meth c Z own nm bytes maxL ret n0 T h' (cells + 1) (slots + cap) → Ext h h' → a = h.size → n0 ≤ a → ARC Z h' a C k (fun _ => .null) → Ends p e below s R n0 Q T (mkF m n Ls (.ref a :: st))) : Ends p e below s R n0 Q T (mkF m pc Ls (.int x :: st)) := by
  subst hn; obtain ⟨_, X, N⟩ := P.stand
  have e0 : (0 : Int32).toInt = 0 := rfl
  have q1 : ¬ x < 0 := by rw [Int32.lt_iff_toInt_lt, e0]; omega
  have q2 : x.toNatClampNeg = k := by simp only [Int32.toNatClampNeg]; omega
  obtain ⟨T', h', cA, X', e', Ex, A, O, kk⟩ := Jvm.RoadKit.newR X P.hx P.hZ P.own' w1 w2 P.heap (g := mkF m pc Ls (.int x :: st)) rfl (hb P.code hd) rfl q1 (cap := cap) (by omega) hb' hc.1 hc.2
  refine (E T' h' _ (P.to X' N e') Ex rfl P.low ⟨_, A, (sz_new _ _ _).trans q2, by have := rng32 x; omega, fun i hi => ?_, O⟩).via kk
  rw [← q2] at hi
  simp [newA, hi, defaultValue]
theorem stR {C : String} {j : Int32} {u : Nat} {y : Addr} (P : Pos p l e R s m args below meth c Z own nm bytes maxL ret n0 T h cells slots) (hd : decode bytes pc = .ok (.aastore, 1)) (A : ARC Z h a C k f) (hj : j.toInt = u ∧ u < k) (I : Ins Z h y C true) (ha : n0 ≤ a) (hn : n = pc + 1)
    (E : ∀ T h', Pos p l e R s m args below meth c Z own nm bytes maxL ret n0 T h' cells slots → Wr h h' a u (.ref y) → Ends p e below s R n0 Q T (mkF m n Ls st)) : Ends p e below s R n0 Q T (mkF m pc Ls (.ref y :: .int j :: .ref a :: st)) := by
  subst hn; obtain ⟨_, X, N⟩ := P.stand
  obtain ⟨cl, B, r1, r2, r3, r4⟩ := A
  obtain ⟨q1, q5⟩ := inA hj r1
  obtain ⟨T', h', X', e', W, kk⟩ := Jvm.RoadKit.stR X P.hx P.hZ P.heap B q1 rfl (Sto.of B r4 I) (g := mkF m pc Ls (.ref y :: .int j :: .ref a :: st)) rfl rfl (hb P.code hd)
  rw [q5] at W X'
  exact (E T' h' (P.to X' (Fr.snoc X' N ha) e') W).via kk
/-- null into an array of references -/
theorem stN {j : Int32} {u : Nat} (P : Pos p l e R s m args below meth c Z own nm bytes maxL ret n0 T h cells slots) (hd : decode bytes pc = .ok (.aastore, 1)) (A : AR Z h a ty k f) (ht : ty.isReference = true) (hj : j.toInt = u ∧ u < k) (ha : n0 ≤ a) (hn : n = pc + 1)
    (E : ∀ T h', Pos p l e R s m args below meth c Z own nm bytes maxL ret n0 T h' cells slots → Wr h h' a u .null → Ends p e below s R n0 Q T (mkF m n Ls st)) : Ends p e below s R n0 Q T (mkF m pc Ls (.null :: .int j :: .ref a :: st)) := by
  subst hn; obtain ⟨_, X, N⟩ := P.stand
  obtain ⟨cl, B, r1, r2, r3⟩ := A
  obtain ⟨q1, q5⟩ := inA hj r1
  obtain ⟨T', h', X', e', W, kk⟩ := Jvm.RoadKit.stR X P.hx P.hZ P.heap B q1 ht (Or.inl rfl) (g := mkF m pc Ls (.null :: .int j :: .ref a :: st)) rfl rfl (hb P.code hd)
  rw [q5] at W X'
  exact (E T' h' (P.to X' (Fr.snoc X' N ha) e') W).via kk
theorem newRA {index : Nat} {C ad : String} {ty : FieldType} {x : Int32} {cap : Nat} (P : Pos p l e R s m args below meth c Z own nm bytes maxL ret n0 T h cells slots) (hd : decode bytes pc = .ok (.anewarray index, 3)) (hC : (FieldType.array ty).toString = C) (had : "[" ++ C = ad) (w1 : (Cond.classLink own index C).before a0 Z = true) (w2 : (Cond.arrayOver (.array ty)).before a0 Z = true) (hx : x.toInt = k ∧ k ≤ cap) (hb' : cap * 8 ≤ 536870912) (hc : cells + 1 ≤ R.cells ∧ slots + cap ≤ R.slots) (hn : n = pc + 3)
    (E : ∀ T h' a, Pos p l e R s m args below meth c Z own nm bytes maxL ret n0 T h' (cells + 1) (slots + cap) → Ext h h' → a = h.size → n0 ≤ a → AR Z h' a (.array ty) k (fun _ => .null) → Ends p e below s R n0 Q T (mkF m n Ls (.ref a :: st))) : Ends p e below s R n0 Q T (mkF m pc Ls (.int x :: st)) := by
  subst hn; obtain ⟨_, X, N⟩ := P.stand
  have e0 : (0 : Int32).toInt = 0 := rfl
  have q1 : ¬ x < 0 := by rw [Int32.lt_iff_toInt_lt, e0]; omega
  have q2 : x.toNatClampNeg = k := by simp only [Int32.toNatClampNeg]; omega
  obtain ⟨T', h', cA, X', e', Ex, A, -, -, kk⟩ := Jvm.RoadKit.newRA X P.hx P.hZ P.own' hC w1 w2 P.heap (g := mkF m pc Ls (.int x :: st)) rfl (hb P.code hd) rfl q1 (cap := cap) (by omega) hb' hc.1 hc.2 had
  refine (E T' h' _ (P.to X' N e') Ex rfl P.low ⟨_, A, (sz_new _ _ _).trans q2, by have := rng32 x; omega, fun i hi => ?_⟩).via kk
  rw [← q2] at hi
  simp [newA, hi, defaultValue]
theorem aaloadA {j : Int32} {u : Nat} {g : Nat → Addr} {C : String} (P : Pos p l e R s m args below meth c Z own nm bytes maxL ret n0 T h cells slots) (hd : decode bytes pc = .ok (.aaload, 1)) (A : AR Z h a (.object C) k (fun i => .ref (g i))) (hj : j.toInt = u ∧ u < k) (hn : n = pc + 1) (E : Ends p e below s R n0 Q T (mkF m n Ls (.ref (g u) :: st))) : Ends p e below s R n0 Q T (mkF m pc Ls (.int j :: .ref a :: st)) := ldA P hd A (Or.inr (Or.inr (Or.inr (Or.inr ⟨rfl, rfl⟩)))) hj rfl hn E
/-! from the sheet's words -/
theorem eq_v {t : Term} {k : Int32} {idx : List Nat} (h : (Cond.eq t (.int k)).value args s none s idx = some true) : t.eval args s none idx s = some (.int k) := by
  cases hv : t.eval args s none idx s with
  | none => simp [Cond.value, hv] at h
  | some v => cases v <;> simp_all [Cond.value, Term.eval]
theorem ord_v {t : Term} {C nn d : String} {k : Int32} (ht : t.eval args s none [] s = some (.ref a)) (h : (Cond.eq (.field t C nn d) (.int k)).value args s none s [] = some true) : Fld s s.heap a C nn d (.int k) :=
  Fld.start ((fld_at (o := none) (args := args) (first := s) (idx := []) ht).symm.trans (eq_v h))
theorem fref_v {t u : Term} {C nn d : String} (ht : t.eval args s none [] s = some (.ref a)) (hu : u.eval args s none [] s = some (.ref b)) (h : (Cond.eq (.field t C nn d) u).value args s none s [] = some true) : Fld s s.heap a C nn d (.ref b) := by
  refine Fld.start ((fld_at (o := none) (args := args) (first := s) (idx := []) ht).symm.trans ?_)
  cases hv : (Term.field t C nn d).eval args s none [] s with
  | none => simp [Cond.value, hv] at h
  | some v => cases v <;> simp_all [Cond.value]
theorem AR.start {t : Term} {z : Int32} (ev : t.eval args s none [] s = some (.ref a)) (hx : (Cond.arrayOf t ty).value args s none s [] = some true) (hl : (Cond.eq (.length t) (.int z)).value args s none s [] = some true) (hz : z.toInt = k)
    (he : ∀ i, i < k → (Term.elem t (.int (Int32.ofNat i))).eval args s none [] s = some (f i)) : AR s s.heap a ty k f := by
  obtain ⟨cl, A⟩ := Arr.start ev hx
  have hA : s.arrayAt? a = some cl := A.fin (Vm.Alike.refl _)
  have hl2 := eq_v hl
  have hl3 : cl.slots.size < 2 ^ 31 ∧ cl.slots.size.toInt32 = z := by simpa [Term.eval, ev, hA] using hl2
  have hsz : cl.slots.size = k := by
    have := len_toInt hl3.1; rw [hl3.2, hz] at this; omega
  refine ⟨cl, A, hsz, by omega, fun i hi => ?_⟩
  have e2 := (elem_in (he i hi) ev (Term.int_eval _) A.1).2
  have e3 : (Int32.ofNat i).toNatClampNeg = i := by
    simp only [Int32.toNatClampNeg, Int32.toInt_ofNat_small (show i < 2 ^ 31 by omega)]; omega
  rw [e3] at e2; exact e2

/-! arrays of doubles, clones, grids -/
abbrev ARD (Z : State) (h : Heap) (a : Addr) (k : Nat) (g : Nat → UInt64) : Prop := AR Z h a .double k (fun i => .double (g i))
theorem ARD.set {g : Nat → UInt64} {i : Nat} {x : UInt64} (A : ARD Z h a k g) (W : Wr h h' a i (.double x)) : ARD Z h' a k (ovr g i x) := by
  refine (AR.set A W).congr fun j _ => ?_
  by_cases u : j = i <;> simp [ovr, u]
theorem daloadD {j : Int32} {u : Nat} {g : Nat → UInt64} (P : Pos p l e R s m args below meth c Z own nm bytes maxL ret n0 T h cells slots) (hd : decode bytes pc = .ok (.daload, 1)) (A : ARD Z h a k g) (hj : j.toInt = u ∧ u < k) (hn : n = pc + 1)
    (E : Ends p e below s R n0 Q T (mkF m n Ls (.double (g u) :: st))) : Ends p e below s R n0 Q T (mkF m pc Ls (.int j :: .ref a :: st)) := by
  subst hn; obtain ⟨_, X, N⟩ := P.stand
  obtain ⟨cl, B, r1, r2, r3⟩ := A
  obtain ⟨q1, q5⟩ := inA hj r1
  have q2 : cl.slots[j.toNatClampNeg]? = some (.double (g u)) := by rw [q5]; exact r3 _ hj.2
  have q3 : T.heap[a]? = some cl := by rw [P.heap]; exact B.1
  have q4 := State.isArrayOf_alike (T := s) P.hZ.alike B.2.1
  exact E.via fun t k => X.daload P.hx q3 q4 B.2.2 q1 q2 (g := mkF m pc Ls (.int j :: .ref a :: st)) rfl rfl (hb P.code hd) t k
theorem stD {j : Int32} {u : Nat} {x : UInt64} (P : Pos p l e R s m args below meth c Z own nm bytes maxL ret n0 T h cells slots) (hd : decode bytes pc = .ok (.dastore, 1)) (A : AR Z h a .double k f) (hj : j.toInt = u ∧ u < k) (ha : n0 ≤ a) (hn : n = pc + 1)
    (E : ∀ T h', Pos p l e R s m args below meth c Z own nm bytes maxL ret n0 T h' cells slots → Wr h h' a u (.double x) → Ends p e below s R n0 Q T (mkF m n Ls st)) : Ends p e below s R n0 Q T (mkF m pc Ls (.double x :: .int j :: .ref a :: st)) := by
  subst hn; obtain ⟨_, X, N⟩ := P.stand
  obtain ⟨cl, B, r1, r2, r3⟩ := A
  obtain ⟨q1, q5⟩ := inA hj r1
  obtain ⟨T', h', X', e', W, kk⟩ := Jvm.RoadKit.stD X P.hx P.hZ P.heap B q1 (g := mkF m pc Ls (.double x :: .int j :: .ref a :: st)) rfl rfl (hb P.code hd)
  rw [q5] at W X'
  exact (E T' h' (P.to X' (Fr.snoc X' N ha) e') W).via kk
theorem newPE {aty : ArrayType} {x : Int32} {cap : Nat} {ad : String} (P : Pos p l e R s m args below meth c Z own nm bytes maxL ret n0 T h cells slots) (hd : decode bytes pc = .ok (.newarray aty, 2)) (w : (Cond.arrayClass (newarray.typeOf aty)).before a0 Z = true) (hx : x.toInt = k ∧ k ≤ cap) (hb' : cap * 8 ≤ 536870912) (hc : cells + 1 ≤ R.cells ∧ slots + cap ≤ R.slots) (had : "[" ++ (newarray.typeOf aty).toString = ad) (hn : n = pc + 2)
    (E : ∀ T h' a, Pos p l e R s m args below meth c Z own nm bytes maxL ret n0 T h' (cells + 1) (slots + cap) → Ext h h' → a = h.size → n0 ≤ a → AR Z h' a (newarray.typeOf aty) k (fun _ => defaultValue (newarray.typeOf aty)) → Exa Z h' a ad → Ends p e below s R n0 Q T (mkF m n Ls (.ref a :: st))) : Ends p e below s R n0 Q T (mkF m pc Ls (.int x :: st)) := by
  subst hn; obtain ⟨_, X, N⟩ := P.stand
  have e0 : (0 : Int32).toInt = 0 := rfl
  have q1 : ¬ x < 0 := by rw [Int32.lt_iff_toInt_lt, e0]; omega
  have q2 : x.toNatClampNeg = k := by simp only [Int32.toNatClampNeg]; omega
  obtain ⟨T', h', cA, X', e', Ex, A, E', kk⟩ := Jvm.RoadKit.newPE X P.hx P.hZ w P.heap (g := mkF m pc Ls (.int x :: st)) rfl (hb P.code hd) rfl q1 (cap := cap) (by omega) hb' hc.1 hc.2 had
  refine (E T' h' _ (P.to X' N e') Ex rfl P.low ⟨_, A, (sz_new _ _ _).trans q2, by have := rng32 x; omega, fun i hi => ?_⟩ E').via kk
  rw [← q2] at hi
  simp [newA, hi]
theorem cloneD {index cap : Nat} {ad : String} {g : Nat → UInt64} (P : Pos p l e R s m args below meth c Z own nm bytes maxL ret n0 T h cells slots) (hd : decode bytes pc = .ok (.invokevirtual index, 3))
    (w1 : (Cond.methodLink own index ⟨ad, "clone", "()Ljava/lang/Object;"⟩).before a0 Z = true) (w2 : (Cond.sameMethod ad "java/lang/Object" "clone" "()Ljava/lang/Object;").before a0 Z = true) (w3 : (Cond.native ⟨"java/lang/Object", "clone", "()Ljava/lang/Object;"⟩).before a0 Z = true)
    (w4 : (Cond.instanceMethod ⟨"java/lang/Object", "clone", "()Ljava/lang/Object;"⟩).before a0 Z = true) (w5 : (Cond.selects ad ⟨ad, "clone", "()Ljava/lang/Object;"⟩ ⟨"java/lang/Object", "clone", "()Ljava/lang/Object;"⟩).before a0 Z = true) (w6 : (Cond.castable ad "java/lang/Cloneable").before a0 Z = true)
    (A : ARD Z h a k g) (Ea : Exa Z h a ad) (hsz : Ls.size = maxL) (hf : 1 ≤ R.frames) (hl : (st.map fun v => v.category).sum + 14 ≤ R.locals) (hcap : k ≤ cap) (hc : cells + 1 ≤ R.cells ∧ slots + cap ≤ R.slots) (hn : n = pc + 3)
    (E : ∀ T h' b, Pos p l e R s m args below meth c Z own nm bytes maxL ret n0 T h' (cells + 1) (slots + cap) → Ext h h' → b = h.size → n0 ≤ b → ARD Z h' b k g → Exa Z h' b ad → Ends p e below s R n0 Q T (mkF m n Ls (.ref b :: st))) : Ends p e below s R n0 Q T (mkF m pc Ls (.ref a :: st)) := by
  subst hn; obtain ⟨_, X, N⟩ := P.stand
  obtain ⟨cl, B, r1, r2, r3⟩ := A
  have FC : FitC Z cl := fitC_of B fun i hi v hv => by rw [r3 i (by omega)] at hv; cases hv; rfl
  obtain ⟨T', h', X', e', Ex, A', E', kk⟩ := Jvm.RoadKit.cloneA X P.hx P.hZ P.own' w1 w2 w3 w4 w5 w6 P.heap B Ea FC (g := mkF m pc Ls (.ref a :: st)) rfl (hsz.trans P.maxl.symm) rfl (hb P.code hd) hf (W := (st.map fun v => v.category).sum) (by show 2 * 0 + _ ≤ _; omega) hl (cap := cap) (by omega) hc.1 hc.2
  exact (E T' h' _ (P.to X' N e') Ex rfl P.low ⟨_, A', r1, r2, r3⟩ E').via kk
theorem castX {index : Nat} {K : String} (P : Pos p l e R s m args below meth c Z own nm bytes maxL ret n0 T h cells slots) (hd : decode bytes pc = .ok (.checkcast index, 3)) (w : (Cond.classLink own index K).before a0 Z = true) (F : Ins Z h a K true) (hn : n = pc + 3)
    (E : ∀ T, Pos p l e R s m args below meth c Z own nm bytes maxL ret n0 T h cells slots → Ends p e below s R n0 Q T (mkF m n Ls (.ref a :: st))) : Ends p e below s R n0 Q T (mkF m pc Ls (.ref a :: st)) := by
  subst hn; obtain ⟨_, X, N⟩ := P.stand
  obtain ⟨T', X', e', kk⟩ := Jvm.RoadKit.castY X P.hx P.hZ P.own' w P.heap F (g := mkF m pc Ls (.ref a :: st)) rfl rfl (hb P.code hd)
  exact (E T' (P.to X' N e')).via kk
theorem gridX {index N cap : Nat} {C ad : String} {x y : Int32} (P : Pos p l e R s m args below meth c Z own nm bytes maxL ret n0 T h cells slots) (hd : decode bytes pc = .ok (.multianewarray index 2, 4)) (hC : (FieldType.array ty).toString = C) (had : "[" ++ C = ad)
    (w1 : (Cond.classLink own index ad).before a0 Z = true) (w2 : (Cond.arrayOver (.array ty)).before a0 Z = true) (w3 : (Cond.arrayClass ty).before a0 Z = true) (hN : x.toInt = N) (hy : y.toInt = cap) (hb' : cap * 8 ≤ 536870912 ∧ N ≤ 1000) (hf : fits ty (defaultValue ty) = true ∧ (defaultValue ty).isDefault = true) (hc : cells + (1 + N) ≤ R.cells ∧ slots + (N + N * cap) ≤ R.slots) (hn : n = pc + 4)
    (E : ∀ T h' a, Pos p l e R s m args below meth c Z own nm bytes maxL ret n0 T h' (cells + (1 + N)) (slots + (N + N * cap)) → Ext h h' → a = h.size → n0 ≤ a → Ends p e below s R n0 Q T (mkF m n Ls (.ref a :: st))) : Ends p e below s R n0 Q T (mkF m pc Ls (.int y :: .int x :: st)) := by
  subst hn; obtain ⟨_, X, NF⟩ := P.stand
  have e0 : (0 : Int32).toInt = 0 := rfl
  have q1 : ¬ x < 0 := by rw [Int32.lt_iff_toInt_lt, e0]; omega
  have q2 : x.toNatClampNeg = N := by simp only [Int32.toNatClampNeg]; omega
  have q3 : ¬ y < 0 := by rw [Int32.lt_iff_toInt_lt, e0]; omega
  have q4 : y.toNatClampNeg = cap := by simp only [Int32.toNatClampNeg]; omega
  obtain ⟨T', h', cA, comp, X', e', Ex, -, -, -, -, kk⟩ := Jvm.RoadKit.gridM X P.hx P.hZ P.own' hC had w1 w2 w3 P.heap (g := mkF m pc Ls (.int y :: .int x :: st)) rfl (hb P.code hd) rfl q1 q3 q2 rfl (cap := cap) (by omega) hb'.1 hb'.2 hf.1 hf.2 hc.1 hc.2
  exact (E T' h' _ (P.to X' NF e') Ex rfl P.low).via kk
theorem dloadN (P : Pos p l e R s m args below meth c Z own nm bytes maxL ret n0 T h cells slots) {j : Fin 4} {v : UInt64} (hd : decode bytes pc = .ok (.dload_n j, 1)) (hl : Ls[j.val]? = some (.val (.double v))) (hn : n = pc + 1)
    (E : Ends p e below s R n0 Q T (mkF m n Ls (.double v :: st))) : Ends p e below s R n0 Q T (mkF m pc Ls st) := by
  subst hn; exact E.via fun t k => XS.dloadN P.here P.hx rfl (hb P.code hd) hl k
theorem dload (P : Pos p l e R s m args below meth c Z own nm bytes maxL ret n0 T h cells slots) {j : Nat} {v : UInt64} (hd : decode bytes pc = .ok (.dload j, 2)) (hl : Ls[j]? = some (.val (.double v))) (hn : n = pc + 2)
    (E : Ends p e below s R n0 Q T (mkF m n Ls (.double v :: st))) : Ends p e below s R n0 Q T (mkF m pc Ls st) := by
  subst hn; exact E.via fun t k => XS.dload P.here P.hx rfl (hb P.code hd) hl k
theorem dstoreN (P : Pos p l e R s m args below meth c Z own nm bytes maxL ret n0 T h cells slots) {j : Fin 4} {v : UInt64} {l' : Array Slot} (hd : decode bytes pc = .ok (.dstore_n j, 1)) (hl : storeLocals Ls j.val (.double v) = some l') (hn : n = pc + 1)
    (E : Ends p e below s R n0 Q T (mkF m n l' st)) : Ends p e below s R n0 Q T (mkF m pc Ls (.double v :: st)) := by
  subst hn; exact E.via fun t k => XS.dstoreN P.here P.hx rfl (hb P.code hd) rfl hl k
theorem dstore (P : Pos p l e R s m args below meth c Z own nm bytes maxL ret n0 T h cells slots) {j : Nat} {v : UInt64} {l' : Array Slot} (hd : decode bytes pc = .ok (.dstore j, 2)) (hl : storeLocals Ls j (.double v) = some l') (hn : n = pc + 2)
    (E : Ends p e below s R n0 Q T (mkF m n l' st)) : Ends p e below s R n0 Q T (mkF m pc Ls (.double v :: st)) := by
  subst hn; exact E.via fun t k => XS.dstore P.here P.hx rfl (hb P.code hd) rfl hl k
theorem dconst0 (P : Pos p l e R s m args below meth c Z own nm bytes maxL ret n0 T h cells slots) (hd : decode bytes pc = .ok (.dconst 0, 1)) (hn : n = pc + 1)
    (E : Ends p e below s R n0 Q T (mkF m n Ls (.double 0 :: st))) : Ends p e below s R n0 Q T (mkF m pc Ls st) := by
  subst hn; exact E.via fun t k => XS.dconst0 P.here P.hx rfl (hb P.code hd) rfl k
theorem l2d (P : Pos p l e R s m args below meth c Z own nm bytes maxL ret n0 T h cells slots) {x : Int64} (hd : decode bytes pc = .ok (.l2d, 1)) (hn : n = pc + 1)
    (E : Ends p e below s R n0 Q T (mkF m n Ls (.double (FP.l2d x) :: st))) : Ends p e below s R n0 Q T (mkF m pc Ls (.long x :: st)) := by
  subst hn; exact E.via fun t k => XS.l2dS P.here P.hx rfl (hb P.code hd) rfl rfl k
theorem i2d (P : Pos p l e R s m args below meth c Z own nm bytes maxL ret n0 T h cells slots) {x : Int32} (hd : decode bytes pc = .ok (.i2d, 1)) (hn : n = pc + 1)
    (E : Ends p e below s R n0 Q T (mkF m n Ls (.double (FP.i2d x) :: st))) : Ends p e below s R n0 Q T (mkF m pc Ls (.int x :: st)) := by
  subst hn; exact E.via fun t k => XS.i2dS P.here P.hx rfl (hb P.code hd) rfl rfl k
theorem dadd (P : Pos p l e R s m args below meth c Z own nm bytes maxL ret n0 T h cells slots) {x y : UInt64} (hd : decode bytes pc = .ok (.dadd, 1)) (hv : Jvm.Free.Fl.NoNaN64 (FP.dadd x y)) (hn : n = pc + 1)
    (E : Ends p e below s R n0 Q T (mkF m n Ls (.double (FP.dadd x y) :: st))) : Ends p e below s R n0 Q T (mkF m pc Ls (.double y :: .double x :: st)) := by
  subst hn; exact E.via fun t k => XS.daddS P.here P.hx rfl (hb P.code hd) rfl hv rfl k
theorem dsub (P : Pos p l e R s m args below meth c Z own nm bytes maxL ret n0 T h cells slots) {x y : UInt64} (hd : decode bytes pc = .ok (.dsub, 1)) (hv : Jvm.Free.Fl.NoNaN64 (FP.dsub x y)) (hn : n = pc + 1)
    (E : Ends p e below s R n0 Q T (mkF m n Ls (.double (FP.dsub x y) :: st))) : Ends p e below s R n0 Q T (mkF m pc Ls (.double y :: .double x :: st)) := by
  subst hn; exact E.via fun t k => XS.dsubS P.here P.hx rfl (hb P.code hd) rfl hv rfl k
theorem dmul (P : Pos p l e R s m args below meth c Z own nm bytes maxL ret n0 T h cells slots) {x y : UInt64} (hd : decode bytes pc = .ok (.dmul, 1)) (hv : Jvm.Free.Fl.NoNaN64 (FP.dmul x y)) (hn : n = pc + 1)
    (E : Ends p e below s R n0 Q T (mkF m n Ls (.double (FP.dmul x y) :: st))) : Ends p e below s R n0 Q T (mkF m pc Ls (.double y :: .double x :: st)) := by
  subst hn; exact E.via fun t k => XS.dmulS P.here P.hx rfl (hb P.code hd) rfl hv rfl k
theorem ddiv (P : Pos p l e R s m args below meth c Z own nm bytes maxL ret n0 T h cells slots) {x y : UInt64} (hd : decode bytes pc = .ok (.ddiv, 1)) (hv : Jvm.Free.Fl.NoNaN64 (FP.ddiv x y)) (hn : n = pc + 1)
    (E : Ends p e below s R n0 Q T (mkF m n Ls (.double (FP.ddiv x y) :: st))) : Ends p e below s R n0 Q T (mkF m pc Ls (.double y :: .double x :: st)) := by
  subst hn; exact E.via fun t k => XS.ddivS P.here P.hx rfl (hb P.code hd) rfl hv rfl k
theorem dcmp (P : Pos p l e R s m args below meth c Z own nm bytes maxL ret n0 T h cells slots) {o : CmpOp} {x y : UInt64} {v : Int32} (hd : decode bytes pc = .ok (.dcmp o, 1)) (hv : cmpValue (FP.dcmp x y) o = v) (hn : n = pc + 1)
    (E : Ends p e below s R n0 Q T (mkF m n Ls (.int v :: st))) : Ends p e below s R n0 Q T (mkF m pc Ls (.double y :: .double x :: st)) := by
  subst hn; exact E.via fun t k => XS.dcmpS P.here P.hx rfl (hb P.code hd) rfl hv k
theorem ldc2D {index : Nat} {v : UInt64} (P : Pos p l e R s m args below meth c Z own nm bytes maxL ret n0 T h cells slots) (hd : decode bytes pc = .ok (.ldc2_w index, 3)) (w : (Cond.constantDouble own index v).before a0 Z = true) (hn : n = pc + 3) (E : Ends p e below s R n0 Q T (mkF m n Ls (.double v :: st))) : Ends p e below s R n0 Q T (mkF m pc Ls st) := by
  subst hn; obtain ⟨_, X, -⟩ := P.stand
  exact E.via fun t k => X.ldc2DoubleC P.hx P.own' (mvT P.hZ w) (g := mkF m pc Ls st) rfl (hb P.code hd) t k
theorem retD {x : UInt64} (P : Pos p l e R s m args below meth c Z own nm bytes maxL (some .double) n0 T h cells slots) (hd : decode bytes pc = .ok (.dreturn, 1)) (hc : cells ≤ R.cells) (hs : slots ≤ R.slots) (q : Q (some (.double x)) h) : Ends p e below s R n0 Q T (mkF m pc Ls (.double x :: st)) :=
  retA P hd rfl (Or.inr (Or.inr (Or.inl ⟨rfl, rfl, _, rfl⟩))) hc hs q
/-! calls -/
theorem Meth.back {y : MethodName} {cb : ByteArray} {mL : Nat} {rt : Option FieldType} {rm : Room} {as : Array Value} {Qc : Option Value → Heap → Prop} {W : Nat} (hM : Meth l Z y cb mL rt rm as h n0 Qc) (hZ : Z.Warmed39 s.vm) (wc : (Cond.code y cb mL rt).before a0 Z = true) (wz : (Cond.initialized y.cls).before a0 Z = true) (hf : rm.frames + 1 ≤ R.frames) (hl : W + (mL + 11) + rm.locals ≤ R.locals) :
    Back l R p e below s args y 3 W (fun A a => a = as ∧ A.U.heap = h ∧ A.cells + rm.cells ≤ R.cells ∧ A.slots + rm.slots ≤ R.slots) (fun A _ v B => ∃ L, (Qc v B.U.heap ∧ Fr n0 L) ∧ B.locs = A.locs ++ L ∧ B.cells = A.cells + rm.cells ∧ B.slots = A.slots + rm.slots) :=
  backOf (Q := fun v h' L => Qc v h' ∧ Fr n0 L) (hM []) hZ wc wz hf hl
theorem callS {index : Nat} {y : MethodName} {cb : ByteArray} {mL : Nat} {rt : Option FieldType} {rm : Room} {argsL rest stk : List Value} {ps : List FieldType} {r : Option FieldType} {Qc : Option Value → Heap → Prop} (P : Pos p l e R s m args below meth c Z own nm bytes maxL ret n0 T h cells slots) (hd : decode bytes pc = .ok (.invokestatic index, 3))
    (hM : Meth l Z y cb mL rt rm argsL.toArray h n0 Qc) (w1 : (Cond.methodLink own index y).before a0 Z = true) (w2 : (Cond.static y).before a0 Z = true) (w3 : (Cond.initialized y.cls).before a0 Z = true) (w4 : (Cond.code y cb mL rt).before a0 Z = true) (hy : y.cls ≠ "java/lang/invoke/MethodHandle" ∧ y.cls ≠ "java/lang/invoke/VarHandle")
    (hp : parseMethodDescriptor y.desc = some ⟨ps, r⟩) (hl : argsL.length = ps.length) (hst : stk = argsL.reverse ++ rest) (hsz : Ls.size = maxL) (hr : rm.frames + 1 ≤ R.frames ∧ (rest.map fun v => v.category).sum + (mL + 11) + rm.locals ≤ R.locals ∧ cells + rm.cells ≤ R.cells ∧ slots + rm.slots ≤ R.slots) (hn : n = pc + 3)
    (E : ∀ T h' v, Pos p l e R s m args below meth c Z own nm bytes maxL ret n0 T h' (cells + rm.cells) (slots + rm.slots) → Qc v h' → Ends p e below s R n0 Q T (mkF m n Ls (v.toList ++ rest))) : Ends p e below s R n0 Q T (mkF m pc Ls stk) := by
  subst hn hst; obtain ⟨locs, X, N⟩ := P.stand
  obtain ⟨v, _, ⟨T', L', k', n'⟩, -, X', ⟨Lc, hQ, e1, e2, e3⟩, kk⟩ := Jvm.LawKit.callS X P.hx (y := y) P.own' (mvT P.hZ w1) (mvT P.hZ w2) (mvT P.hZ w3) (mvT P.hZ w4) hy (hM.back (W := (rest.map fun v => v.category).sum) P.hZ w4 w3 hr.1 hr.2.1) (g := mkF m pc Ls (argsL.reverse ++ rest)) rfl (hsz.trans P.maxl.symm) (argsL := argsL) (rest := rest) (lenOf hp hl) rfl (by show 2 * 0 + _ ≤ _; omega) (hb P.code hd) (fun _ _ => ⟨rfl, P.heap, hr.2.2.1, hr.2.2.2⟩)
  dsimp only [Pt.U, Pt.locs, Pt.cells, Pt.slots] at X' e1 e2 e3 kk hQ
  subst e1 e2 e3
  exact (E T' T'.heap v (P.to X' (Fr.app N hQ.2) rfl) hQ.1).via kk
theorem callN {a : Addr} {index : Nat} {y : MethodName} {cb : ByteArray} {mL : Nat} {rm : Room} {argsL rest stk : List Value} {ps : List FieldType} {r : Option FieldType} {Qc : Option Value → Heap → Prop} (P : Pos p l e R s m args below meth c Z own nm bytes maxL ret n0 T h cells slots) (hd : decode bytes pc = .ok (.invokespecial index, 3))
    (hM : Meth l Z y cb mL none rm (.ref a :: argsL).toArray h n0 Qc) (hy1 : y.name = "<init>") (w1 : (Cond.methodLink own index y).before a0 Z = true) (w2 : (Cond.instanceMethod y).before a0 Z = true) (w3 : (Cond.initialized y.cls).before a0 Z = true) (w4 : (Cond.code y cb mL none).before a0 Z = true) (hy : y.cls ≠ "java/lang/invoke/MethodHandle" ∧ y.cls ≠ "java/lang/invoke/VarHandle")
    (hp : parseMethodDescriptor y.desc = some ⟨ps, r⟩) (hl : argsL.length = ps.length) (hst : stk = argsL.reverse ++ .ref a :: rest) (hsz : Ls.size = maxL) (hr : rm.frames + 1 ≤ R.frames ∧ (rest.map fun v => v.category).sum + (mL + 11) + rm.locals ≤ R.locals ∧ cells + rm.cells ≤ R.cells ∧ slots + rm.slots ≤ R.slots) (hn : n = pc + 3)
    (E : ∀ T h' v, Pos p l e R s m args below meth c Z own nm bytes maxL ret n0 T h' (cells + rm.cells) (slots + rm.slots) → Qc v h' → Ends p e below s R n0 Q T (mkF m n Ls (v.toList ++ rest))) : Ends p e below s R n0 Q T (mkF m pc Ls stk) := by
  subst hn hst; obtain ⟨locs, X, N⟩ := P.stand
  obtain ⟨v, _, ⟨T', L', k', n'⟩, -, X', ⟨Lc, hQ, e1, e2, e3⟩, kk⟩ := X.specialBack P.hx (y := y) hy1 P.own' (mvT P.hZ w1) (mvT P.hZ w2) (mvT P.hZ w4) hy (hM.back (W := (rest.map fun v => v.category).sum) P.hZ w4 w3 hr.1 hr.2.1) (g := mkF m pc Ls (argsL.reverse ++ .ref a :: rest)) rfl (hsz.trans P.maxl.symm) (Steps.refl _) (a := a) (argsL := argsL) (rest := rest) (lenOf hp hl) rfl (by show 2 * 0 + _ ≤ _; omega) (hb P.code hd) (fun _ _ => ⟨rfl, P.heap, hr.2.2.1, hr.2.2.2⟩)
  dsimp only [Pt.U, Pt.locs, Pt.cells, Pt.slots] at X' e1 e2 e3 kk hQ
  subst e1 e2 e3
  exact (E T' T'.heap v (P.to X' (Fr.app N hQ.2) rfl) hQ.1).via fun t k => kk.trans k
theorem callV {a : Addr} {C : String} {z : MethodName} {index : Nat} {y : MethodName} {cb : ByteArray} {mL : Nat} {rt : Option FieldType} {rm : Room} {argsL rest stk : List Value} {ps : List FieldType} {r : Option FieldType} {Qc : Option Value → Heap → Prop} (P : Pos p l e R s m args below meth c Z own nm bytes maxL ret n0 T h cells slots) (hd : decode bytes pc = .ok (.invokevirtual index, 3))
    (hM : Meth l Z z cb mL rt rm (.ref a :: argsL).toArray h n0 Qc) (X0 : Exa Z h a C) (w1 : (Cond.methodLink own index y).before a0 Z = true) (w2 : (Cond.declares y).before a0 Z = true) (nf : NotFace s y) (ws : (Cond.selects C y z).before a0 Z = true) (wi : (Cond.instanceMethod z).before a0 Z = true) (w3 : (Cond.initialized z.cls).before a0 Z = true) (w4 : (Cond.code z cb mL rt).before a0 Z = true) (hy : y.cls ≠ "java/lang/invoke/MethodHandle" ∧ y.cls ≠ "java/lang/invoke/VarHandle")
    (hp : parseMethodDescriptor y.desc = some ⟨ps, r⟩) (hl : argsL.length = ps.length) (hst : stk = argsL.reverse ++ .ref a :: rest) (hsz : Ls.size = maxL) (hr : rm.frames + 1 ≤ R.frames ∧ (rest.map fun v => v.category).sum + (mL + 11) + rm.locals ≤ R.locals ∧ cells + rm.cells ≤ R.cells ∧ slots + rm.slots ≤ R.slots) (hn : n = pc + 3)
    (E : ∀ T h' v, Pos p l e R s m args below meth c Z own nm bytes maxL ret n0 T h' (cells + rm.cells) (slots + rm.slots) → Qc v h' → Ends p e below s R n0 Q T (mkF m n Ls (v.toList ++ rest))) : Ends p e below s R n0 Q T (mkF m pc Ls stk) := by
  subst hn hst; obtain ⟨locs, X, N⟩ := P.stand
  obtain ⟨cq, kq, q1, q2, q3⟩ := isOf P.hZ P.heap X0
  obtain ⟨v, _, ⟨T', L', k', n'⟩, -, X', ⟨Lc, hQ, e1, e2, e3⟩, kk⟩ := X.virtualBack P.hx (y := y) (z := z) P.own' (mvT P.hZ w1) (mvT P.hZ w2) nf (mvT P.hZ ws) (mvT P.hZ wi) hy (hM.back (W := (rest.map fun v => v.category).sum) P.hZ w4 w3 hr.1 hr.2.1) q1 q3 (g := mkF m pc Ls (argsL.reverse ++ .ref a :: rest)) rfl (hsz.trans P.maxl.symm) (Steps.refl _) (argsL := argsL) (rest := rest) (lenOf hp hl) rfl (by show 2 * 0 + _ ≤ _; omega) (hb P.code hd) (fun _ _ => ⟨rfl, P.heap, hr.2.2.1, hr.2.2.2⟩)
  dsimp only [Pt.U, Pt.locs, Pt.cells, Pt.slots] at X' e1 e2 e3 kk hQ
  subst e1 e2 e3
  exact (E T' T'.heap v (P.to X' (Fr.app N hQ.2) rfl) hQ.1).via fun t k => kk.trans k
theorem callP {a : Addr} {C : String} {kk : Nat} {index : Nat} {y : MethodName} {cb : ByteArray} {mL : Nat} {rt : Option FieldType} {rm : Room} {argsL rest stk : List Value} {ps : List FieldType} {r : Option FieldType} {Qc : Option Value → Heap → Prop} (P : Pos p l e R s m args below meth c Z own nm bytes maxL ret n0 T h cells slots) (hd : decode bytes pc = .ok (.invokevirtual index, 3))
    (hM : Meth l Z y cb mL rt rm (.ref a :: argsL).toArray h n0 Qc) (X0 : Exa Z h a C) (w1 : (Cond.methodLink own index y).before a0 Z = true) (wi : (Cond.instanceMethod y).before a0 Z = true) (wn : (Cond.instantiable y.cls kk).before a0 Z = true) (wp : (Cond.privateMethod y).before a0 Z = true) (w3 : (Cond.initialized y.cls).before a0 Z = true) (w4 : (Cond.code y cb mL rt).before a0 Z = true) (hy : y.cls ≠ "java/lang/invoke/MethodHandle" ∧ y.cls ≠ "java/lang/invoke/VarHandle")
    (hp : parseMethodDescriptor y.desc = some ⟨ps, r⟩) (hl : argsL.length = ps.length) (hst : stk = argsL.reverse ++ .ref a :: rest) (hsz : Ls.size = maxL) (hr : rm.frames + 1 ≤ R.frames ∧ (rest.map fun v => v.category).sum + (mL + 11) + rm.locals ≤ R.locals ∧ cells + rm.cells ≤ R.cells ∧ slots + rm.slots ≤ R.slots) (hn : n = pc + 3)
    (E : ∀ T h' v, Pos p l e R s m args below meth c Z own nm bytes maxL ret n0 T h' (cells + rm.cells) (slots + rm.slots) → Qc v h' → Ends p e below s R n0 Q T (mkF m n Ls (v.toList ++ rest))) : Ends p e below s R n0 Q T (mkF m pc Ls stk) := by
  subst hn hst; obtain ⟨locs, X, N⟩ := P.stand
  obtain ⟨cq, q1, q2⟩ := X0.cell
  have wi' : (Cond.instanceMethod y).before args s = true := mvT P.hZ wi
  have pv : s.PrivateAt y := Cond.privateMethod_at (mvP P.hZ wp (args := #[]))
  obtain ⟨c0, k0, hc0, hk0, -, hfl, -⟩ := Cond.instantiable_spec (mvT P.hZ wn (args := args))
  have ws : (Cond.selects y.cls y y).before args s = true := selects_self_of_private hc0 hk0 (by simp_all) pv wi' hy
  obtain ⟨v, _, ⟨T', L', k', n'⟩, -, X', ⟨Lc, hQ, e1, e2, e3⟩, kk⟩ := X.privateBack P.hx (y := y) P.own' (mvT P.hZ w1) wi' ws pv (mvT P.hZ w4) hy (hM.back (W := (rest.map fun v => v.category).sum) P.hZ w4 w3 hr.1 hr.2.1) (g := mkF m pc Ls (argsL.reverse ++ .ref a :: rest)) rfl (hsz.trans P.maxl.symm) (Steps.refl _) (a := a) (by rw [P.heap]; exact q1) q2 (argsL := argsL) (rest := rest) (lenOf hp hl) rfl (by show 2 * 0 + _ ≤ _; omega) (hb P.code hd) (fun _ _ => ⟨rfl, P.heap, hr.2.2.1, hr.2.2.2⟩)
  dsimp only [Pt.U, Pt.locs, Pt.cells, Pt.slots] at X' e1 e2 e3 kk hQ
  subst e1 e2 e3
  exact (E T' T'.heap v (P.to X' (Fr.app N hQ.2) rfl) hQ.1).via fun t k => kk.trans k
/-- a constructor's call paid by a given Back -/
theorem callNB {a : Addr} {index : Nat} {y : MethodName} {cb : ByteArray} {mL : Nat} {argsL rest stk : List Value} {ps : List FieldType} {r : Option FieldType} {kc ks : Nat} {QQ : Option Value → Heap → List Loc → Prop} (P : Pos p l e R s m args below meth c Z own nm bytes maxL ret n0 T h cells slots) (hd : decode bytes pc = .ok (.invokespecial index, 3))
    (hB : Back l R p e below s args y 3 (rest.map fun v => v.category).sum (fun A a' => a' = (.ref a :: argsL).toArray ∧ A.U.heap = h ∧ A.cells + kc ≤ R.cells ∧ A.slots + ks ≤ R.slots) (fun A _ v B => ∃ L, QQ v B.U.heap L ∧ B.locs = A.locs ++ L ∧ B.cells = A.cells + kc ∧ B.slots = A.slots + ks))
    (hQF : ∀ v h' L, QQ v h' L → Fr n0 L) (hy1 : y.name = "<init>") (w1 : (Cond.methodLink own index y).before a0 Z = true) (w2 : (Cond.instanceMethod y).before a0 Z = true) (w4 : (Cond.code y cb mL none).before a0 Z = true) (hy : y.cls ≠ "java/lang/invoke/MethodHandle" ∧ y.cls ≠ "java/lang/invoke/VarHandle")
    (hp : parseMethodDescriptor y.desc = some ⟨ps, r⟩) (hl : argsL.length = ps.length) (hst : stk = argsL.reverse ++ .ref a :: rest) (hsz : Ls.size = maxL) (hr : cells + kc ≤ R.cells ∧ slots + ks ≤ R.slots) (hn : n = pc + 3)
    (E : ∀ T h' v L, Pos p l e R s m args below meth c Z own nm bytes maxL ret n0 T h' (cells + kc) (slots + ks) → QQ v h' L → Ends p e below s R n0 Q T (mkF m n Ls (v.toList ++ rest))) : Ends p e below s R n0 Q T (mkF m pc Ls stk) := by
  subst hn hst; obtain ⟨locs, X, N⟩ := P.stand
  obtain ⟨v, _, ⟨T', L', k', n'⟩, -, X', ⟨Lc, hQ, e1, e2, e3⟩, kk⟩ := X.specialBack P.hx (y := y) hy1 P.own' (mvT P.hZ w1) (mvT P.hZ w2) (mvT P.hZ w4) hy hB (g := mkF m pc Ls (argsL.reverse ++ .ref a :: rest)) rfl (hsz.trans P.maxl.symm) (Steps.refl _) (a := a) (argsL := argsL) (rest := rest) (lenOf hp hl) rfl (by show 2 * 0 + _ ≤ _; omega) (hb P.code hd) (fun _ _ => ⟨rfl, P.heap, hr.1, hr.2⟩)
  dsimp only [Pt.U, Pt.locs, Pt.cells, Pt.slots] at X' e1 e2 e3 kk hQ
  subst e1 e2 e3
  exact (E T' T'.heap v Lc (P.to X' (Fr.app N (hQF _ _ _ hQ)) rfl) hQ).via fun t k => kk.trans k
/-- returns v and leaves the heap as it was -/
def Ret (v : Value) (h : Heap) : Option Value → Heap → Prop := fun w h' => w = some v ∧ h' = h
theorem Ret.ofI {x y : Int32} (q : x = y) : Ret (.int y) h (some (.int x)) h := ⟨by rw [q], rfl⟩
theorem Ret.ofL {x y : Int64} (q : x = y) : Ret (.long y) h (some (.long x)) h := ⟨by rw [q], rfl⟩
theorem Ret.ofA {x y : Value} (q : x = y) : Ret y h (some x) h := ⟨by rw [q], rfl⟩
/-- the continuation behind a call that only returns -/
theorem Ret.on {v : Value} {cells' slots' : Nat} {rest : List Value} (E : ∀ T, Pos p l e R s m args below meth c Z own nm bytes maxL ret n0 T h cells' slots' → Ends p e below s R n0 Q T (mkF m n Ls (v :: rest))) :
    ∀ T h' w, Pos p l e R s m args below meth c Z own nm bytes maxL ret n0 T h' cells' slots' → Ret v h w h' → Ends p e below s R n0 Q T (mkF m n Ls (w.toList ++ rest)) := by
  rintro T h' w P ⟨rfl, rfl⟩; exact E T P

/-- returns nothing and leaves the heap as it was -/
def RetV (h : Heap) : Option Value → Heap → Prop := fun w h' => w = none ∧ h' = h
theorem RetV.mk : RetV h none h := ⟨rfl, rfl⟩
theorem RetV.on {cells' slots' : Nat} {rest : List Value} (E : ∀ T, Pos p l e R s m args below meth c Z own nm bytes maxL ret n0 T h cells' slots' → Ends p e below s R n0 Q T (mkF m n Ls rest)) :
    ∀ T h' w, Pos p l e R s m args below meth c Z own nm bytes maxL ret n0 T h' cells' slots' → RetV h w h' → Ends p e below s R n0 Q T (mkF m n Ls (w.toList ++ rest)) := by
  rintro T h' w P ⟨rfl, rfl⟩; exact E T P
/-- returns an int (a long) of which F holds, and leaves the heap as it was -/
def RetI (F : Int32 → Prop) (h : Heap) : Option Value → Heap → Prop := fun w h' => ∃ z, w = some (.int z) ∧ F z ∧ h' = h
def RetJ (F : Int64 → Prop) (h : Heap) : Option Value → Heap → Prop := fun w h' => ∃ z, w = some (.long z) ∧ F z ∧ h' = h
theorem RetI.mk {F : Int32 → Prop} {x : Int32} (q : F x) : RetI F h (some (.int x)) h := ⟨x, rfl, q, rfl⟩
theorem RetJ.mk {F : Int64 → Prop} {x : Int64} (q : F x) : RetJ F h (some (.long x)) h := ⟨x, rfl, q, rfl⟩
theorem RetI.on {F : Int32 → Prop} {cells' slots' : Nat} {rest : List Value} (E : ∀ T z, Pos p l e R s m args below meth c Z own nm bytes maxL ret n0 T h cells' slots' → F z → Ends p e below s R n0 Q T (mkF m n Ls (.int z :: rest))) :
    ∀ T h' w, Pos p l e R s m args below meth c Z own nm bytes maxL ret n0 T h' cells' slots' → RetI F h w h' → Ends p e below s R n0 Q T (mkF m n Ls (w.toList ++ rest)) := by
  rintro T h' w P ⟨z, rfl, q, rfl⟩; exact E T z P q
theorem RetJ.on {F : Int64 → Prop} {cells' slots' : Nat} {rest : List Value} (E : ∀ T z, Pos p l e R s m args below meth c Z own nm bytes maxL ret n0 T h cells' slots' → F z → Ends p e below s R n0 Q T (mkF m n Ls (.long z :: rest))) :
    ∀ T h' w, Pos p l e R s m args below meth c Z own nm bytes maxL ret n0 T h' cells' slots' → RetJ F h w h' → Ends p e below s R n0 Q T (mkF m n Ls (w.toList ++ rest)) := by
  rintro T h' w P ⟨z, rfl, q, rfl⟩; exact E T z P q
end Core
/-! numbers: what an operation is worth where nothing wraps -/
section Num
theorem n_iadd {x y z : Int32} {X Y : Int} (hz : z = x + y) (hx : x.toInt = X) (hy : y.toInt = Y) (b : -2147483648 ≤ X + Y ∧ X + Y ≤ 2147483647) : z.toInt = X + Y := by
  subst hz hx hy; have := c_iadd x y; have := rng32 (x + y); omega
theorem n_isub {x y z : Int32} {X Y : Int} (hz : z = x - y) (hx : x.toInt = X) (hy : y.toInt = Y) (b : -2147483648 ≤ X - Y ∧ X - Y ≤ 2147483647) : z.toInt = X - Y := by
  subst hz hx hy; have := c_isub x y; have := rng32 (x - y); omega
theorem n_imul {x y z : Int32} {X Y : Int} (hz : z = x * y) (hx : x.toInt = X) (hy : y.toInt = Y) (b : -2147483648 ≤ X * Y ∧ X * Y ≤ 2147483647) : z.toInt = X * Y := by
  subst hz hx hy; have h1 := c_imul x y; have := rng32 (x * y); generalize x.toInt * y.toInt = w at *; omega
theorem n_ladd {x y z : Int64} {X Y : Int} (hz : z = x + y) (hx : x.toInt = X) (hy : y.toInt = Y) (b : -9223372036854775808 ≤ X + Y ∧ X + Y ≤ 9223372036854775807) : z.toInt = X + Y := by
  subst hz hx hy; have := c_ladd x y; have := rng64 (x + y); omega
theorem n_lsub {x y z : Int64} {X Y : Int} (hz : z = x - y) (hx : x.toInt = X) (hy : y.toInt = Y) (b : -9223372036854775808 ≤ X - Y ∧ X - Y ≤ 9223372036854775807) : z.toInt = X - Y := by
  subst hz hx hy; have := c_lsub x y; have := rng64 (x - y); omega
theorem n_lmul {x y z : Int64} {X Y : Int} (hz : z = x * y) (hx : x.toInt = X) (hy : y.toInt = Y) (b : -9223372036854775808 ≤ X * Y ∧ X * Y ≤ 9223372036854775807) : z.toInt = X * Y := by
  subst hz hx hy; have h1 := c_lmul x y; have := rng64 (x * y); generalize x.toInt * y.toInt = w at *; omega
theorem n_i2l {x : Int32} {z : Int64} {X : Int} (hz : z = x.toInt64) (hx : x.toInt = X) : z.toInt = X := by subst hz hx; exact c_i2l x
theorem n_irem {x y z : Int32} {X Y : Int} (hz : z = x % y) (hx : x.toInt = X) (hy : y.toInt = Y) (b : 0 ≤ X) : z.toInt = X % Y := by
  subst hz hx; exact (c_irem x y Y hy).1 b
theorem n_idiv {x y z : Int32} {X Y : Int} (hz : z = x / y) (hx : x.toInt = X) (hy : y.toInt = Y) (b : 0 ≤ X ∧ 0 < Y) : z.toInt = X / Y := by
  subst hz hx; exact (c_idiv x y Y hy (fun q => by subst q; have : (-1 : Int32).toInt = -1 := rfl; omega)).1 b.1
theorem n_ldiv {x y z : Int64} {X Y : Int} (hz : z = x / y) (hx : x.toInt = X) (hy : y.toInt = Y) (b : 0 ≤ X ∧ 0 < Y) : z.toInt = X / Y := by
  subst hz hx; exact (c_ldiv x y Y hy (fun q => by subst q; have : (-1 : Int64).toInt = -1 := rfl; omega)).1 b.1
theorem n_mask {x m z : Int32} {X : Int} (k : Nat) (hz : z = x &&& m) (hx : x.toInt = X) (hk : k ≤ 31 ∧ m.toBitVec.toNat = 2 ^ k - 1) : z.toInt = X % (2 ^ k : Nat) := by subst hz hx; exact c_mask x m k hk.1 hk.2
theorem n_maskL {x m z : Int64} {X : Int} (k : Nat) (hz : z = x &&& m) (hx : x.toInt = X) (hk : k ≤ 63 ∧ m.toBitVec.toNat = 2 ^ k - 1) : z.toInt = X % (2 ^ k : Nat) := by subst hz hx; exact c_maskL x m k hk.1 hk.2
theorem n_iushr {x q z : Int32} {X : Int} (k : Nat) (hz : z = (x.toUInt32 >>> (q &&& 31).toUInt32).toInt32) (hx : x.toInt = X) (hk : q.toBitVec.toNat % 32 = k ∧ 0 < k) : z.toInt = (X % 4294967296) / (2 ^ k : Nat) := by subst hz hx; exact c_iushr x q k hk.1 hk.2
theorem n_ishr {x q z : Int32} {X : Int} (k : Nat) (hz : z = x >>> (q &&& 31)) (hx : x.toInt = X) (hk : q.toBitVec.toNat % 32 = k) : z.toInt = X / (2 ^ k : Nat) := by subst hz hx; exact c_ishr x q k hk
theorem n_iremV {x y z : Int32} (hz : z = x % y) (hx : 0 ≤ x.toInt) (hy : 0 < y.toInt) : 0 ≤ z.toInt ∧ z.toInt < y.toInt := by
  subst hz; have := (c_iremV x y).1 hx hy; omega
theorem nzI {y : Int32} (h : ¬ y.toInt = 0) : y ≠ 0 := fun q => h (by rw [q]; rfl)
theorem nzL {y : Int64} (h : ¬ y.toInt = 0) : y ≠ 0 := fun q => h (by rw [q]; rfl)
theorem b8 (x : Int32) : x.toInt8.toInt32.toInt8.toInt32 = x.toInt8.toInt32 := by simp
theorem eqI {x y : Int32} (h : x.toInt = y.toInt) : x = y := Int32.toInt_inj.mp h
theorem eqL {x y : Int64} (h : x.toInt = y.toInt) : x = y := Int64.toInt_inj.mp h
theorem ofI {x : Int32} {X : Int} (h : x.toInt = X) : x = Int32.ofInt X := by rw [← h]; exact (Int32.ofInt_toInt x).symm
theorem ofL {x : Int64} {X : Int} (h : x.toInt = X) : x = Int64.ofInt X := by rw [← h]; exact (Int64.ofInt_toInt x).symm
end Num
end Jvm.Own
namespace Jvm.Pilot.@@N@@
open Jvm Jvm.ClassFile Sem Op Lib Jvm.Free Jvm.Stand Jvm.LawKit Jvm.RoadKit Bundle Jvm.Pilot.@@N@@.Jvm.D
open Jvm.Own
def own_v (x : UInt64) : Int32 := cmpValue (FP.dcmp x 0) .l
def own_pick (c l u : UInt64) : UInt64 := if (own_v c).toInt < 0 then l else u
def own_ob (c0 v0 c1 v1 c2 v2 : UInt64) : UInt64 := FP.dadd (FP.dadd (FP.dadd 0 (FP.dmul c0 v0)) (FP.dmul c1 v1)) (FP.dmul c2 v2)
def own_B (x : UInt64) : Prop := ∃ b : Int32, x = FP.i2d b ∧ -128 ≤ b.toInt ∧ b.toInt ≤ 127
theorem own_Bi (x : Int32) : own_B (FP.i2d (x.toInt8.toInt32)) := ⟨_, rfl, (c_i2b x).2.1, by have := (c_i2b x).2.2; omega⟩
theorem own_dm {c v : UInt64} (hc : own_B c) (hv : own_B v) : ∃ i : Int, FP.Core.DInt i (FP.dmul c v) ∧ -16384 ≤ i ∧ i ≤ 16384 := by
  obtain ⟨b, rfl, b1, b2⟩ := hc
  obtain ⟨d, rfl, d1, d2⟩ := hv
  have k1 : b.toInt * d.toInt ≤ 16384 ∧ -16384 ≤ b.toInt * d.toInt := by
    have a1 : b.toInt.natAbs ≤ 128 := by omega
    have a2 : d.toInt.natAbs ≤ 128 := by omega
    have a3 := Nat.mul_le_mul a1 a2
    rw [← Int.natAbs_mul] at a3
    omega
  exact ⟨b.toInt * d.toInt, FP.Core.dmul_int (FP.Core.i2d_int b) (FP.Core.i2d_int d) (by omega), k1.2, k1.1⟩
theorem own_z : FP.Core.DInt 0 0 := by
  show FP.Core.Whole 0 (FP.Core.val64 FP.Core.dconst0)
  rw [FP.Core.val64_dconst0]
  show FP.Core.signed false (0 * _) = 0 * _
  simp [FP.Core.signed]
theorem own_no {i : Int} {x : UInt64} (h : FP.Core.DInt i x) : Jvm.Free.Fl.NoNaN64 x := Jvm.Free.Fl.val64_no.mpr (FP.Core.DInt_ne_nan h)
theorem own_nm {c v : UInt64} (hc : own_B c) (hv : own_B v) : Jvm.Free.Fl.NoNaN64 (FP.dmul c v) := by obtain ⟨i, h, -⟩ := own_dm hc hv; exact own_no h
theorem own_s2 {x c v : UInt64} {s : Int} (hx : FP.Core.DInt s x) (hs : -100000 ≤ s ∧ s ≤ 100000) (hc : own_B c) (hv : own_B v) : ∃ i : Int, FP.Core.DInt (s + i) (FP.dadd x (FP.dmul c v)) ∧ -16384 ≤ i ∧ i ≤ 16384 ∧ FP.Core.DInt i (FP.dmul c v) := by
  obtain ⟨i, h, h1, h2⟩ := own_dm hc hv
  exact ⟨i, FP.Core.dadd_int hx h (by omega), h1, h2, h⟩
theorem own_all {c0 v0 c1 v1 c2 v2 : UInt64} (a0 : own_B c0) (b0 : own_B v0) (a1 : own_B c1) (b1 : own_B v1) (a2 : own_B c2) (b2 : own_B v2) :
    (Jvm.Free.Fl.NoNaN64 (FP.dadd 0 (FP.dmul c0 v0)) ∧ Jvm.Free.Fl.NoNaN64 (FP.dadd (FP.dadd 0 (FP.dmul c0 v0)) (FP.dmul c1 v1)) ∧ Jvm.Free.Fl.NoNaN64 (own_ob c0 v0 c1 v1 c2 v2)) ∧
    (Jvm.Free.Fl.NoNaN64 (FP.dadd (FP.dmul c0 v0) (FP.dmul c1 v1)) ∧ Jvm.Free.Fl.NoNaN64 (FP.dadd (FP.dadd (FP.dmul c0 v0) (FP.dmul c1 v1)) (FP.dmul c2 v2))) ∧
    cmpValue (FP.dcmp (own_ob c0 v0 c1 v1 c2 v2) (FP.dadd (FP.dadd (FP.dmul c0 v0) (FP.dmul c1 v1)) (FP.dmul c2 v2))) .l = 0 := by
  obtain ⟨i, h1, r1, r2, h0⟩ := own_s2 own_z (by omega) a0 b0
  rw [Int.zero_add] at h1
  obtain ⟨j, h2, r3, r4, -⟩ := own_s2 h1 (by omega) a1 b1
  obtain ⟨k, h3, r5, r6, -⟩ := own_s2 h2 (by omega) a2 b2
  obtain ⟨j', g2, -, -, g4⟩ := own_s2 h0 (by omega) a1 b1
  obtain ⟨j9, q1, q2, q3⟩ := own_dm a1 b1
  obtain ⟨k9, q4, q5, q6⟩ := own_dm a2 b2
  have m2 : FP.Core.DInt (i + j9) (FP.dadd (FP.dmul c0 v0) (FP.dmul c1 v1)) := FP.Core.dadd_int h0 q1 (by omega)
  have m1 : FP.Core.DInt (i + j9) (FP.dadd (FP.dadd 0 (FP.dmul c0 v0)) (FP.dmul c1 v1)) := FP.Core.dadd_int h1 q1 (by omega)
  have m3 : FP.Core.DInt (i + j9 + k9) (FP.dadd (FP.dadd (FP.dmul c0 v0) (FP.dmul c1 v1)) (FP.dmul c2 v2)) := FP.Core.dadd_int m2 q4 (by omega)
  have m4 : FP.Core.DInt (i + j9 + k9) (own_ob c0 v0 c1 v1 c2 v2) := FP.Core.dadd_int m1 q4 (by omega)
  refine ⟨⟨own_no h1, own_no m1, own_no m4⟩, ⟨own_no m2, own_no m3⟩, ?_⟩
  have e : FP.dcmp (own_ob c0 v0 c1 v1 c2 v2) (FP.dadd (FP.dadd (FP.dmul c0 v0) (FP.dmul c1 v1)) (FP.dmul c2 v2)) = some (compare (i + j9 + k9) (i + j9 + k9)) := FP.Core.dcmp_int m4 m3
  rw [e, show compare (i + j9 + k9) (i + j9 + k9) = Ordering.eq from by rw [Int.compare_eq_eq]]; rfl
def own_S (Z : State) (n0 : Nat) (h : Heap) (a : Addr) (kc kl ku kv kp kr : Addr) (gc gl gu gv : Nat → UInt64) : Prop := Exa Z h a "com/example/hertzbid/hertzbid/mechanisms/DualSimplex" ∧ Fld Z h a "com/example/hertzbid/hertzbid/mechanisms/DualSimplex" "columns" "I" (.int (3 : Int32)) ∧ Fld Z h a "com/example/hertzbid/hertzbid/mechanisms/DualSimplex" "cost" "[D" (.ref kc) ∧ Fld Z h a "com/example/hertzbid/hertzbid/mechanisms/DualSimplex" "lower" "[D" (.ref kl) ∧ Fld Z h a "com/example/hertzbid/hertzbid/mechanisms/DualSimplex" "upper" "[D" (.ref ku) ∧ Fld Z h a "com/example/hertzbid/hertzbid/mechanisms/DualSimplex" "value" "[D" (.ref kv) ∧ Fld Z h a "com/example/hertzbid/hertzbid/mechanisms/DualSimplex" "columnPlace" "[I" (.ref kp) ∧ Fld Z h a "com/example/hertzbid/hertzbid/mechanisms/DualSimplex" "reduced" "[D" (.ref kr) ∧ ARD Z h kc 3 gc ∧ ARD Z h kl 3 gl ∧ ARD Z h ku 3 gu ∧ ARD Z h kv 3 gv ∧ ARI Z h kp .int 3 (fun _ => (-1 : Int32)) ∧ ARD Z h kr 3 (fun _ => 0) ∧ n0 ≤ kl ∧ n0 ≤ ku ∧ n0 ≤ kv ∧ kl ≠ ku ∧ kl ≠ kv ∧ ku ≠ kv ∧ kc ≠ kl ∧ kc ≠ ku ∧ kc ≠ kv ∧ kp ≠ kl ∧ kp ≠ ku ∧ kp ≠ kv ∧ kr ≠ kl ∧ kr ≠ ku ∧ kr ≠ kv ∧ a ≠ kl ∧ a ≠ ku ∧ a ≠ kv
theorem d3_0 : decode jdk_65_method_103_code 0 = .ok (.iconst 0, 1) := by decide +kernel
theorem d3_1 : decode jdk_65_method_103_code 1 = .ok (.istore_n 2, 1) := by decide +kernel
theorem d3_2 : decode jdk_65_method_103_code 2 = .ok (.aload_n 0, 1) := by decide +kernel
theorem d3_3 : decode jdk_65_method_103_code 3 = .ok (.arraylength, 1) := by decide +kernel
theorem d3_4 : decode jdk_65_method_103_code 4 = .ok (.istore_n 3, 1) := by decide +kernel
theorem d3_5 : decode jdk_65_method_103_code 5 = .ok (.iload_n 2, 1) := by decide +kernel
theorem d3_6 : decode jdk_65_method_103_code 6 = .ok (.iload_n 3, 1) := by decide +kernel
theorem d3_7 : decode jdk_65_method_103_code 7 = .ok (.if_icmp .ge 13, 3) := by decide +kernel
theorem d3_10 : decode jdk_65_method_103_code 10 = .ok (.aload_n 0, 1) := by decide +kernel
theorem d3_11 : decode jdk_65_method_103_code 11 = .ok (.iload_n 2, 1) := by decide +kernel
theorem d3_12 : decode jdk_65_method_103_code 12 = .ok (.iload_n 1, 1) := by decide +kernel
theorem d3_13 : decode jdk_65_method_103_code 13 = .ok (.iastore, 1) := by decide +kernel
theorem d3_14 : decode jdk_65_method_103_code 14 = .ok (.iinc 2 1, 3) := by decide +kernel
theorem d3_17 : decode jdk_65_method_103_code 17 = .ok (.goto (-12), 3) := by decide +kernel
theorem d3_20 : decode jdk_65_method_103_code 20 = .ok (.return_, 1) := by decide +kernel
theorem ef_3 (m : MethodId) (oa : Addr) (u : Int32) : entryFrame m #[(.ref oa), (.int u)] 4 = mkF m 0 #[.val (.ref oa), .val (.int u), .unset, .unset] [] := by first | (simp [entryFrame, mkF, argsToLocals, Value.category]; done) | rfl
theorem pn_0 : plainName "java/util/Arrays" = true := by first | (simp [plainName, overriddenIn]; done) | decide +kernel
abbrev rm_c_fill : Room := { frames := 0, cells := 0, slots := 0, locals := 0 }
set_option maxRecDepth 65536 in
set_option maxHeartbeats 40000000 in
theorem c_fill (l : Launch) (Z : State) (a0 : Array Value) (hw : ∀ d ∈ tables_1, d.before a0 Z = true) (oa : Addr) (u : Int32) (go : Nat → Int32) (h0 : Heap) (n0 : Nat) (low : n0 ≤ h0.size) (A_o : ARI Z h0 oa .int 3 go) (lo : n0 ≤ oa) :
    Meth l Z (⟨"java/util/Arrays", "fill", "([II)V"⟩ : MethodName) jdk_65_method_103_code 4 none rm_c_fill #[(.ref oa), (.int u)] h0 n0 (fun v h => v = none ∧ Keep h0 h [oa] ∧ ARI Z h oa .int 3 (fun _ => u)) := by
  refine Meth.of (plainFor_of_name pn_0) low ?_
  intro p e s m args below meth c T P
  refine Ends.cast (ef_3 m oa u) ?_
  have K := Keep.refl h0 [oa]
  refine iconst P d3_0 (x := (0 : Int32)) rfl (n := 1) rfl ?_
  refine istoreN P d3_1 (l' := #[.val (.ref oa), .val (.int u), .val (.int (0 : Int32)), .unset]) rfl (n := 2) rfl ?_
  refine aloadN P d3_2 rfl rfl (n := 3) rfl ?_
  refine alen P d3_3 A_o (x := (3 : Int32)) rfl (n := 4) rfl ?_
  refine istoreN P d3_4 (l' := #[.val (.ref oa), .val (.int u), .val (.int (0 : Int32)), .val (.int (3 : Int32))]) rfl (n := 5) rfl ?_
  refine iloadN P d3_5 rfl (n := 6) rfl ?_
  refine iloadN P d3_6 rfl (n := 7) rfl ?_
  refine icmp_ge P d3_7 (n' := 20) (n := 10) (by decide) rfl (fun hc7 => ?_) (fun hc7 => ?_)
  · -- pc 7 taken
    replace hc7 : (3 : Int) ≤ (0 : Int) := hc7
    exact absurd hc7 (by decide)
  · -- pc 7 not taken
    replace hc7 : (0 : Int) < (3 : Int) := hc7
    refine aloadN P d3_10 rfl rfl (n := 11) rfl ?_
    refine iloadN P d3_11 rfl (n := 12) rfl ?_
    refine iloadN P d3_12 rfl (n := 13) rfl ?_
    refine stI P d3_13 A_o (u := 0) ⟨rfl, by decide⟩ lo (n := 14) rfl ?_
    intro T h1 P W2
    replace A_o := ARI.set A_o W2
    have K := Keep.wr K W2 (Or.inl (by simp))
    refine iinc P d3_14 (x := (0 : Int32)) (y := (1 : Int32)) rfl rfl (l' := #[.val (.ref oa), .val (.int u), .val (.int ((0 : Int32) + (1 : Int32))), .val (.int (3 : Int32))]) rfl (n := 17) rfl ?_
    rw [show ((0 : Int32) + (1 : Int32)) = (1 : Int32) from by decide]
    refine goto P d3_17 (n := 5) (by decide) ?_
    refine iloadN P d3_5 rfl (n := 6) rfl ?_
    refine iloadN P d3_6 rfl (n := 7) rfl ?_
    refine icmp_ge P d3_7 (n' := 20) (n := 10) (by decide) rfl (fun hc7 => ?_) (fun hc7 => ?_)
    · -- pc 7 taken
      replace hc7 : (3 : Int) ≤ (1 : Int) := hc7
      exact absurd hc7 (by decide)
    · -- pc 7 not taken
      replace hc7 : (1 : Int) < (3 : Int) := hc7
      refine aloadN P d3_10 rfl rfl (n := 11) rfl ?_
      refine iloadN P d3_11 rfl (n := 12) rfl ?_
      refine iloadN P d3_12 rfl (n := 13) rfl ?_
      refine stI P d3_13 A_o (u := 1) ⟨rfl, by decide⟩ lo (n := 14) rfl ?_
      intro T h3 P W4
      replace A_o := ARI.set A_o W4
      have K := Keep.wr K W4 (Or.inl (by simp))
      refine iinc P d3_14 (x := (1 : Int32)) (y := (1 : Int32)) rfl rfl (l' := #[.val (.ref oa), .val (.int u), .val (.int ((1 : Int32) + (1 : Int32))), .val (.int (3 : Int32))]) rfl (n := 17) rfl ?_
      rw [show ((1 : Int32) + (1 : Int32)) = (2 : Int32) from by decide]
      refine goto P d3_17 (n := 5) (by decide) ?_
      refine iloadN P d3_5 rfl (n := 6) rfl ?_
      refine iloadN P d3_6 rfl (n := 7) rfl ?_
      refine icmp_ge P d3_7 (n' := 20) (n := 10) (by decide) rfl (fun hc7 => ?_) (fun hc7 => ?_)
      · -- pc 7 taken
        replace hc7 : (3 : Int) ≤ (2 : Int) := hc7
        exact absurd hc7 (by decide)
      · -- pc 7 not taken
        replace hc7 : (2 : Int) < (3 : Int) := hc7
        refine aloadN P d3_10 rfl rfl (n := 11) rfl ?_
        refine iloadN P d3_11 rfl (n := 12) rfl ?_
        refine iloadN P d3_12 rfl (n := 13) rfl ?_
        refine stI P d3_13 A_o (u := 2) ⟨rfl, by decide⟩ lo (n := 14) rfl ?_
        intro T h5 P W6
        replace A_o := ARI.set A_o W6
        have K := Keep.wr K W6 (Or.inl (by simp))
        refine iinc P d3_14 (x := (2 : Int32)) (y := (1 : Int32)) rfl rfl (l' := #[.val (.ref oa), .val (.int u), .val (.int ((2 : Int32) + (1 : Int32))), .val (.int (3 : Int32))]) rfl (n := 17) rfl ?_
        rw [show ((2 : Int32) + (1 : Int32)) = (3 : Int32) from by decide]
        refine goto P d3_17 (n := 5) (by decide) ?_
        refine iloadN P d3_5 rfl (n := 6) rfl ?_
        refine iloadN P d3_6 rfl (n := 7) rfl ?_
        refine icmp_ge P d3_7 (n' := 20) (n := 10) (by decide) rfl (fun hc7 => ?_) (fun hc7 => ?_)
        · -- pc 7 taken
          replace hc7 : (3 : Int) ≤ (3 : Int) := hc7
          refine retV P d3_20 (by decide) (by decide) ?_
          refine ⟨rfl, K, AR.congr A_o fun i hi => ?_⟩
          have q : i = 0 ∨ i = 1 ∨ i = 2 := by omega
          rcases q with rfl | rfl | rfl <;> rfl
        · -- pc 7 not taken
          replace hc7 : (3 : Int) < (3 : Int) := hc7
          exact absurd hc7 (by decide)
theorem d1_0 : decode prog_4_method_1_code 0 = .ok (.aload_n 0, 1) := by decide +kernel
theorem d1_1 : decode prog_4_method_1_code 1 = .ok (.invokespecial 1, 3) := by decide +kernel
theorem d1_4 : decode prog_4_method_1_code 4 = .ok (.aload_n 0, 1) := by decide +kernel
theorem d1_5 : decode prog_4_method_1_code 5 = .ok (.bipush 16, 2) := by decide +kernel
theorem d1_7 : decode prog_4_method_1_code 7 = .ok (.anewarray 7, 3) := by decide +kernel
theorem d1_10 : decode prog_4_method_1_code 10 = .ok (.putfield 9, 3) := by decide +kernel
theorem d1_13 : decode prog_4_method_1_code 13 = .ok (.aload_n 0, 1) := by decide +kernel
theorem d1_14 : decode prog_4_method_1_code 14 = .ok (.bipush 16, 2) := by decide +kernel
theorem d1_16 : decode prog_4_method_1_code 16 = .ok (.anewarray 15, 3) := by decide +kernel
theorem d1_19 : decode prog_4_method_1_code 19 = .ok (.putfield 17, 3) := by decide +kernel
theorem d1_22 : decode prog_4_method_1_code 22 = .ok (.aload_n 0, 1) := by decide +kernel
theorem d1_23 : decode prog_4_method_1_code 23 = .ok (.bipush 16, 2) := by decide +kernel
theorem d1_25 : decode prog_4_method_1_code 25 = .ok (.newarray .double, 2) := by decide +kernel
theorem d1_27 : decode prog_4_method_1_code 27 = .ok (.putfield 21, 3) := by decide +kernel
theorem d1_30 : decode prog_4_method_1_code 30 = .ok (.aload_n 0, 1) := by decide +kernel
theorem d1_31 : decode prog_4_method_1_code 31 = .ok (.bipush 16, 2) := by decide +kernel
theorem d1_33 : decode prog_4_method_1_code 33 = .ok (.newarray .double, 2) := by decide +kernel
theorem d1_35 : decode prog_4_method_1_code 35 = .ok (.putfield 24, 3) := by decide +kernel
theorem d1_38 : decode prog_4_method_1_code 38 = .ok (.aload_n 0, 1) := by decide +kernel
theorem d1_39 : decode prog_4_method_1_code 39 = .ok (.bipush 16, 2) := by decide +kernel
theorem d1_41 : decode prog_4_method_1_code 41 = .ok (.newarray .int, 2) := by decide +kernel
theorem d1_43 : decode prog_4_method_1_code 43 = .ok (.putfield 27, 3) := by decide +kernel
theorem d1_46 : decode prog_4_method_1_code 46 = .ok (.aload_n 0, 1) := by decide +kernel
theorem d1_47 : decode prog_4_method_1_code 47 = .ok (.bipush 16, 2) := by decide +kernel
theorem d1_49 : decode prog_4_method_1_code 49 = .ok (.newarray .int, 2) := by decide +kernel
theorem d1_51 : decode prog_4_method_1_code 51 = .ok (.putfield 30, 3) := by decide +kernel
theorem d1_54 : decode prog_4_method_1_code 54 = .ok (.aload_n 0, 1) := by decide +kernel
theorem d1_55 : decode prog_4_method_1_code 55 = .ok (.bipush 16, 2) := by decide +kernel
theorem d1_57 : decode prog_4_method_1_code 57 = .ok (.newarray .int, 2) := by decide +kernel
theorem d1_59 : decode prog_4_method_1_code 59 = .ok (.putfield 33, 3) := by decide +kernel
theorem d1_62 : decode prog_4_method_1_code 62 = .ok (.aload_n 0, 1) := by decide +kernel
theorem d1_63 : decode prog_4_method_1_code 63 = .ok (.bipush 16, 2) := by decide +kernel
theorem d1_65 : decode prog_4_method_1_code 65 = .ok (.bipush 16, 2) := by decide +kernel
theorem d1_67 : decode prog_4_method_1_code 67 = .ok (.multianewarray 36 2, 4) := by decide +kernel
theorem d1_71 : decode prog_4_method_1_code 71 = .ok (.putfield 37, 3) := by decide +kernel
theorem d1_74 : decode prog_4_method_1_code 74 = .ok (.aload_n 0, 1) := by decide +kernel
theorem d1_75 : decode prog_4_method_1_code 75 = .ok (.bipush 16, 2) := by decide +kernel
theorem d1_77 : decode prog_4_method_1_code 77 = .ok (.newarray .double, 2) := by decide +kernel
theorem d1_79 : decode prog_4_method_1_code 79 = .ok (.putfield 40, 3) := by decide +kernel
theorem d1_82 : decode prog_4_method_1_code 82 = .ok (.aload_n 0, 1) := by decide +kernel
theorem d1_83 : decode prog_4_method_1_code 83 = .ok (.bipush 16, 2) := by decide +kernel
theorem d1_85 : decode prog_4_method_1_code 85 = .ok (.newarray .double, 2) := by decide +kernel
theorem d1_87 : decode prog_4_method_1_code 87 = .ok (.putfield 43, 3) := by decide +kernel
theorem d1_90 : decode prog_4_method_1_code 90 = .ok (.aload_n 0, 1) := by decide +kernel
theorem d1_91 : decode prog_4_method_1_code 91 = .ok (.aload_n 1, 1) := by decide +kernel
theorem d1_92 : decode prog_4_method_1_code 92 = .ok (.arraylength, 1) := by decide +kernel
theorem d1_93 : decode prog_4_method_1_code 93 = .ok (.putfield 46, 3) := by decide +kernel
theorem d1_96 : decode prog_4_method_1_code 96 = .ok (.aload_n 0, 1) := by decide +kernel
theorem d1_97 : decode prog_4_method_1_code 97 = .ok (.aload_n 1, 1) := by decide +kernel
theorem d1_98 : decode prog_4_method_1_code 98 = .ok (.invokevirtual 50, 3) := by decide +kernel
theorem d1_101 : decode prog_4_method_1_code 101 = .ok (.checkcast 15, 3) := by decide +kernel
theorem d1_104 : decode prog_4_method_1_code 104 = .ok (.putfield 54, 3) := by decide +kernel
theorem d1_107 : decode prog_4_method_1_code 107 = .ok (.aload_n 0, 1) := by decide +kernel
theorem d1_108 : decode prog_4_method_1_code 108 = .ok (.aload_n 2, 1) := by decide +kernel
theorem d1_109 : decode prog_4_method_1_code 109 = .ok (.invokevirtual 50, 3) := by decide +kernel
theorem d1_112 : decode prog_4_method_1_code 112 = .ok (.checkcast 15, 3) := by decide +kernel
theorem d1_115 : decode prog_4_method_1_code 115 = .ok (.putfield 57, 3) := by decide +kernel
theorem d1_118 : decode prog_4_method_1_code 118 = .ok (.aload_n 0, 1) := by decide +kernel
theorem d1_119 : decode prog_4_method_1_code 119 = .ok (.aload_n 3, 1) := by decide +kernel
theorem d1_120 : decode prog_4_method_1_code 120 = .ok (.invokevirtual 50, 3) := by decide +kernel
theorem d1_123 : decode prog_4_method_1_code 123 = .ok (.checkcast 15, 3) := by decide +kernel
theorem d1_126 : decode prog_4_method_1_code 126 = .ok (.putfield 60, 3) := by decide +kernel
theorem d1_129 : decode prog_4_method_1_code 129 = .ok (.aload_n 0, 1) := by decide +kernel
theorem d1_130 : decode prog_4_method_1_code 130 = .ok (.aload_n 0, 1) := by decide +kernel
theorem d1_131 : decode prog_4_method_1_code 131 = .ok (.getfield 46, 3) := by decide +kernel
theorem d1_134 : decode prog_4_method_1_code 134 = .ok (.newarray .double, 2) := by decide +kernel
theorem d1_136 : decode prog_4_method_1_code 136 = .ok (.putfield 63, 3) := by decide +kernel
theorem d1_139 : decode prog_4_method_1_code 139 = .ok (.aload_n 0, 1) := by decide +kernel
theorem d1_140 : decode prog_4_method_1_code 140 = .ok (.aload_n 0, 1) := by decide +kernel
theorem d1_141 : decode prog_4_method_1_code 141 = .ok (.getfield 46, 3) := by decide +kernel
theorem d1_144 : decode prog_4_method_1_code 144 = .ok (.newarray .int, 2) := by decide +kernel
theorem d1_146 : decode prog_4_method_1_code 146 = .ok (.putfield 66, 3) := by decide +kernel
theorem d1_149 : decode prog_4_method_1_code 149 = .ok (.aload_n 0, 1) := by decide +kernel
theorem d1_150 : decode prog_4_method_1_code 150 = .ok (.getfield 66, 3) := by decide +kernel
theorem d1_153 : decode prog_4_method_1_code 153 = .ok (.iconst (-1), 1) := by decide +kernel
theorem d1_154 : decode prog_4_method_1_code 154 = .ok (.invokestatic 69, 3) := by decide +kernel
theorem d1_157 : decode prog_4_method_1_code 157 = .ok (.aload_n 0, 1) := by decide +kernel
theorem d1_158 : decode prog_4_method_1_code 158 = .ok (.aload_n 0, 1) := by decide +kernel
theorem d1_159 : decode prog_4_method_1_code 159 = .ok (.getfield 46, 3) := by decide +kernel
theorem d1_162 : decode prog_4_method_1_code 162 = .ok (.iconst 4, 1) := by decide +kernel
theorem d1_163 : decode prog_4_method_1_code 163 = .ok (.multianewarray 75 2, 4) := by decide +kernel
theorem d1_167 : decode prog_4_method_1_code 167 = .ok (.putfield 76, 3) := by decide +kernel
theorem d1_170 : decode prog_4_method_1_code 170 = .ok (.aload_n 0, 1) := by decide +kernel
theorem d1_171 : decode prog_4_method_1_code 171 = .ok (.aload_n 0, 1) := by decide +kernel
theorem d1_172 : decode prog_4_method_1_code 172 = .ok (.getfield 46, 3) := by decide +kernel
theorem d1_175 : decode prog_4_method_1_code 175 = .ok (.iconst 4, 1) := by decide +kernel
theorem d1_176 : decode prog_4_method_1_code 176 = .ok (.multianewarray 36 2, 4) := by decide +kernel
theorem d1_180 : decode prog_4_method_1_code 180 = .ok (.putfield 79, 3) := by decide +kernel
theorem d1_183 : decode prog_4_method_1_code 183 = .ok (.aload_n 0, 1) := by decide +kernel
theorem d1_184 : decode prog_4_method_1_code 184 = .ok (.aload_n 0, 1) := by decide +kernel
theorem d1_185 : decode prog_4_method_1_code 185 = .ok (.getfield 46, 3) := by decide +kernel
theorem d1_188 : decode prog_4_method_1_code 188 = .ok (.newarray .int, 2) := by decide +kernel
theorem d1_190 : decode prog_4_method_1_code 190 = .ok (.putfield 82, 3) := by decide +kernel
theorem d1_193 : decode prog_4_method_1_code 193 = .ok (.aload_n 0, 1) := by decide +kernel
theorem d1_194 : decode prog_4_method_1_code 194 = .ok (.aload_n 0, 1) := by decide +kernel
theorem d1_195 : decode prog_4_method_1_code 195 = .ok (.getfield 46, 3) := by decide +kernel
theorem d1_198 : decode prog_4_method_1_code 198 = .ok (.newarray .double, 2) := by decide +kernel
theorem d1_200 : decode prog_4_method_1_code 200 = .ok (.putfield 85, 3) := by decide +kernel
theorem d1_203 : decode prog_4_method_1_code 203 = .ok (.aload_n 0, 1) := by decide +kernel
theorem d1_204 : decode prog_4_method_1_code 204 = .ok (.aload_n 0, 1) := by decide +kernel
theorem d1_205 : decode prog_4_method_1_code 205 = .ok (.getfield 46, 3) := by decide +kernel
theorem d1_208 : decode prog_4_method_1_code 208 = .ok (.newarray .double, 2) := by decide +kernel
theorem d1_210 : decode prog_4_method_1_code 210 = .ok (.putfield 88, 3) := by decide +kernel
theorem d1_213 : decode prog_4_method_1_code 213 = .ok (.iconst 0, 1) := by decide +kernel
theorem d1_214 : decode prog_4_method_1_code 214 = .ok (.istore 4, 2) := by decide +kernel
theorem d1_216 : decode prog_4_method_1_code 216 = .ok (.iload 4, 2) := by decide +kernel
theorem d1_218 : decode prog_4_method_1_code 218 = .ok (.aload_n 0, 1) := by decide +kernel
theorem d1_219 : decode prog_4_method_1_code 219 = .ok (.getfield 46, 3) := by decide +kernel
theorem d1_222 : decode prog_4_method_1_code 222 = .ok (.if_icmp .ge 36, 3) := by decide +kernel
theorem d1_225 : decode prog_4_method_1_code 225 = .ok (.aload_n 0, 1) := by decide +kernel
theorem d1_226 : decode prog_4_method_1_code 226 = .ok (.getfield 63, 3) := by decide +kernel
theorem d1_229 : decode prog_4_method_1_code 229 = .ok (.iload 4, 2) := by decide +kernel
theorem d1_231 : decode prog_4_method_1_code 231 = .ok (.aload_n 1, 1) := by decide +kernel
theorem d1_232 : decode prog_4_method_1_code 232 = .ok (.iload 4, 2) := by decide +kernel
theorem d1_234 : decode prog_4_method_1_code 234 = .ok (.daload, 1) := by decide +kernel
theorem d1_235 : decode prog_4_method_1_code 235 = .ok (.dconst 0, 1) := by decide +kernel
theorem d1_236 : decode prog_4_method_1_code 236 = .ok (.dcmp .l, 1) := by decide +kernel
theorem d1_237 : decode prog_4_method_1_code 237 = .ok (.ifCond .lt 10, 3) := by decide +kernel
theorem d1_240 : decode prog_4_method_1_code 240 = .ok (.aload_n 3, 1) := by decide +kernel
theorem d1_241 : decode prog_4_method_1_code 241 = .ok (.iload 4, 2) := by decide +kernel
theorem d1_243 : decode prog_4_method_1_code 243 = .ok (.daload, 1) := by decide +kernel
theorem d1_244 : decode prog_4_method_1_code 244 = .ok (.goto 7, 3) := by decide +kernel
theorem d1_247 : decode prog_4_method_1_code 247 = .ok (.aload_n 2, 1) := by decide +kernel
theorem d1_248 : decode prog_4_method_1_code 248 = .ok (.iload 4, 2) := by decide +kernel
theorem d1_250 : decode prog_4_method_1_code 250 = .ok (.daload, 1) := by decide +kernel
theorem d1_251 : decode prog_4_method_1_code 251 = .ok (.dastore, 1) := by decide +kernel
theorem d1_252 : decode prog_4_method_1_code 252 = .ok (.iinc 4 1, 3) := by decide +kernel
theorem d1_255 : decode prog_4_method_1_code 255 = .ok (.goto (-39), 3) := by decide +kernel
theorem d1_258 : decode prog_4_method_1_code 258 = .ok (.return_, 1) := by decide +kernel
theorem ef_1 (m : MethodId) (a : Addr) (ca : Addr) (la : Addr) (ua : Addr) : entryFrame m #[(.ref a), (.ref ca), (.ref la), (.ref ua)] 5 = mkF m 0 #[.val (.ref a), .val (.ref ca), .val (.ref la), .val (.ref ua), .unset] [] := by first | (simp [entryFrame, mkF, argsToLocals, Value.category]; done) | rfl
theorem pn_1 : plainName "com/example/hertzbid/hertzbid/mechanisms/DualSimplex" = true := by first | (simp [plainName, overriddenIn]; done) | decide +kernel
theorem pd_0 : parseMethodDescriptor "()Ljava/lang/Object;" = some ⟨[], some (.object "java/lang/Object")⟩ := by decide +kernel
theorem pd_1 : parseMethodDescriptor "([II)V" = some ⟨[(.array .int), .int], none⟩ := by decide +kernel
abbrev rm_c_new : Room := { frames := 1, cells := 42, slots := 470, locals := 15 }
set_option maxRecDepth 65536 in
set_option maxHeartbeats 40000000 in
theorem c_new (l : Launch) (Z : State) (a0 : Array Value) (hw : ∀ d ∈ tables_1, d.before a0 Z = true) (a : Addr) (ca : Addr) (la : Addr) (ua : Addr) (gc gl gu : Nat → UInt64) (h0 : Heap) (n0 : Nat) (low : n0 ≤ h0.size) (E_a : Exa Z h0 a "com/example/hertzbid/hertzbid/mechanisms/DualSimplex") (G_rowColumns : Fld Z h0 a "com/example/hertzbid/hertzbid/mechanisms/DualSimplex" "rowColumns" "[[I" .null) (G_rowCoefficients : Fld Z h0 a "com/example/hertzbid/hertzbid/mechanisms/DualSimplex" "rowCoefficients" "[[D" .null) (G_bound : Fld Z h0 a "com/example/hertzbid/hertzbid/mechanisms/DualSimplex" "bound" "[D" .null) (G_slack : Fld Z h0 a "com/example/hertzbid/hertzbid/mechanisms/DualSimplex" "slack" "[D" .null) (G_rowPlace : Fld Z h0 a "com/example/hertzbid/hertzbid/mechanisms/DualSimplex" "rowPlace" "[I" .null) (G_tight : Fld Z h0 a "com/example/hertzbid/hertzbid/mechanisms/DualSimplex" "tight" "[I" .null) (G_basic : Fld Z h0 a "com/example/hertzbid/hertzbid/mechanisms/DualSimplex" "basic" "[I" .null) (G_inverse : Fld Z h0 a "com/example/hertzbid/hertzbid/mechanisms/DualSimplex" "inverse" "[[D" .null) (G_price : Fld Z h0 a "com/example/hertzbid/hertzbid/mechanisms/DualSimplex" "price" "[D" .null) (G_pivotSlack : Fld Z h0 a "com/example/hertzbid/hertzbid/mechanisms/DualSimplex" "pivotSlack" "[D" .null) (G_columns : Fld Z h0 a "com/example/hertzbid/hertzbid/mechanisms/DualSimplex" "columns" "I" (.int (0 : Int32))) (G_cost : Fld Z h0 a "com/example/hertzbid/hertzbid/mechanisms/DualSimplex" "cost" "[D" .null) (G_lower : Fld Z h0 a "com/example/hertzbid/hertzbid/mechanisms/DualSimplex" "lower" "[D" .null) (G_upper : Fld Z h0 a "com/example/hertzbid/hertzbid/mechanisms/DualSimplex" "upper" "[D" .null) (G_value : Fld Z h0 a "com/example/hertzbid/hertzbid/mechanisms/DualSimplex" "value" "[D" .null) (G_columnPlace : Fld Z h0 a "com/example/hertzbid/hertzbid/mechanisms/DualSimplex" "columnPlace" "[I" .null) (G_columnRows : Fld Z h0 a "com/example/hertzbid/hertzbid/mechanisms/DualSimplex" "columnRows" "[[I" .null) (G_columnCoefficients : Fld Z h0 a "com/example/hertzbid/hertzbid/mechanisms/DualSimplex" "columnCoefficients" "[[D" .null) (G_columnLengths : Fld Z h0 a "com/example/hertzbid/hertzbid/mechanisms/DualSimplex" "columnLengths" "[I" .null) (G_reduced : Fld Z h0 a "com/example/hertzbid/hertzbid/mechanisms/DualSimplex" "reduced" "[D" .null) (G_pivotRow : Fld Z h0 a "com/example/hertzbid/hertzbid/mechanisms/DualSimplex" "pivotRow" "[D" .null) (A_ca : ARD Z h0 ca 3 gc) (A_la : ARD Z h0 la 3 gl) (A_ua : ARD Z h0 ua 3 gu) (E_ca : Exa Z h0 ca "[D") (E_la : Exa Z h0 la "[D") (E_ua : Exa Z h0 ua "[D") (n_ca : ca ≠ a) (n_la : la ≠ a) (n_ua : ua ≠ a) (lo_a : n0 ≤ a) :
    Meth l Z (⟨"com/example/hertzbid/hertzbid/mechanisms/DualSimplex", "<init>", "([D[D[D)V"⟩ : MethodName) prog_4_method_1_code 5 none rm_c_new #[(.ref a), (.ref ca), (.ref la), (.ref ua)] h0 n0 (fun v h => v = none ∧ ∃ (kc kl ku kv kp kr : Addr) (gv : Nat → UInt64), own_S Z n0 h a kc kl ku kv kp kr gc gl gu gv ∧ gv 0 = own_pick (gc 0) (gl 0) (gu 0) ∧ gv 1 = own_pick (gc 1) (gl 1) (gu 1) ∧ gv 2 = own_pick (gc 2) (gl 2) (gu 2)) := by
  refine Meth.of (plainFor_of_name pn_1) low ?_
  intro p e s m args below meth c T P
  refine Ends.cast (ef_1 m a ca la ua) ?_
  refine aloadN P d1_0 rfl rfl (n := 1) rfl ?_
  refine initO P d1_1 (hw _ (List.mem_of_getElem? (i := 7) rfl)) (hw _ (List.mem_of_getElem? (i := 8) rfl)) (hw _ (List.mem_of_getElem? (i := 9) rfl)) rfl (by decide) (Nat.le_of_ble_eq_true rfl) (n := 4) rfl ?_
  intro T P
  refine aloadN P d1_4 rfl rfl (n := 5) rfl ?_
  refine bipush P d1_5 (x := (16 : Int32)) rfl (n := 7) rfl ?_
  refine newRA P d1_7 (ty := .int) (C := "[I") (ad := "[[I") (by decide) (by decide) (hw _ (List.mem_of_getElem? (i := 10) rfl)) (hw _ (List.mem_of_getElem? (i := 11) rfl)) (k := 16) (cap := 16) ⟨rfl, by decide⟩ (by decide) (by decide) (n := 10) rfl ?_
  intro T h2 b1 P X3 g4 lo_b1 A_b1
  have ne_a_b1 : a ≠ b1 := Nat.ne_of_lt (g4 ▸ E_a.lt)
  have ne_ca_b1 : ca ≠ b1 := Nat.ne_of_lt (g4 ▸ A_ca.lt)
  have ne_la_b1 : la ≠ b1 := Nat.ne_of_lt (g4 ▸ A_la.lt)
  have ne_ua_b1 : ua ≠ b1 := Nat.ne_of_lt (g4 ▸ A_ua.lt)
  replace E_a := Exa.ext X3 E_a
  replace G_rowColumns := Fld.ext X3 G_rowColumns
  replace G_rowCoefficients := Fld.ext X3 G_rowCoefficients
  replace G_bound := Fld.ext X3 G_bound
  replace G_slack := Fld.ext X3 G_slack
  replace G_rowPlace := Fld.ext X3 G_rowPlace
  replace G_tight := Fld.ext X3 G_tight
  replace G_basic := Fld.ext X3 G_basic
  replace G_inverse := Fld.ext X3 G_inverse
  replace G_price := Fld.ext X3 G_price
  replace G_pivotSlack := Fld.ext X3 G_pivotSlack
  replace G_columns := Fld.ext X3 G_columns
  replace G_cost := Fld.ext X3 G_cost
  replace G_lower := Fld.ext X3 G_lower
  replace G_upper := Fld.ext X3 G_upper
  replace G_value := Fld.ext X3 G_value
  replace G_columnPlace := Fld.ext X3 G_columnPlace
  replace G_columnRows := Fld.ext X3 G_columnRows
  replace G_columnCoefficients := Fld.ext X3 G_columnCoefficients
  replace G_columnLengths := Fld.ext X3 G_columnLengths
  replace G_reduced := Fld.ext X3 G_reduced
  replace G_pivotRow := Fld.ext X3 G_pivotRow
  replace A_ca := A_ca.ext X3
  replace E_ca := Exa.ext X3 E_ca
  replace A_la := A_la.ext X3
  replace E_la := Exa.ext X3 E_la
  replace A_ua := A_ua.ext X3
  replace E_ua := Exa.ext X3 E_ua
  refine putF P d1_10 (hw _ (List.mem_of_getElem? (i := 12) rfl)) G_rowColumns E_a (Or.inl (hw _ (List.mem_of_getElem? (i := 13) rfl))) (hw _ (List.mem_of_getElem? (i := 2) rfl)) (ty := (.array (.array .int))) (by decide) rfl rfl lo_a (n := 13) rfl ?_
  intro T h5 P W6
  replace E_a := Exa.wr W6 E_a
  replace G_rowCoefficients := Fld.other W6 G_rowCoefficients (Or.inr (slot_ne (Or.inl (hw _ (List.mem_of_getElem? (i := 17) rfl))) (Or.inl (hw _ (List.mem_of_getElem? (i := 13) rfl))) (by decide) (t := (.array (.array .double))) (t' := (.array (.array .int))) (by decide) (by decide)))
  replace G_bound := Fld.other W6 G_bound (Or.inr (slot_ne (Or.inl (hw _ (List.mem_of_getElem? (i := 19) rfl))) (Or.inl (hw _ (List.mem_of_getElem? (i := 13) rfl))) (by decide) (t := (.array .double)) (t' := (.array (.array .int))) (by decide) (by decide)))
  replace G_slack := Fld.other W6 G_slack (Or.inr (slot_ne (Or.inl (hw _ (List.mem_of_getElem? (i := 21) rfl))) (Or.inl (hw _ (List.mem_of_getElem? (i := 13) rfl))) (by decide) (t := (.array .double)) (t' := (.array (.array .int))) (by decide) (by decide)))
  replace G_rowPlace := Fld.other W6 G_rowPlace (Or.inr (slot_ne (Or.inl (hw _ (List.mem_of_getElem? (i := 24) rfl))) (Or.inl (hw _ (List.mem_of_getElem? (i := 13) rfl))) (by decide) (t := (.array .int)) (t' := (.array (.array .int))) (by decide) (by decide)))
  replace G_tight := Fld.other W6 G_tight (Or.inr (slot_ne (Or.inl (hw _ (List.mem_of_getElem? (i := 26) rfl))) (Or.inl (hw _ (List.mem_of_getElem? (i := 13) rfl))) (by decide) (t := (.array .int)) (t' := (.array (.array .int))) (by decide) (by decide)))
  replace G_basic := Fld.other W6 G_basic (Or.inr (slot_ne (Or.inl (hw _ (List.mem_of_getElem? (i := 28) rfl))) (Or.inl (hw _ (List.mem_of_getElem? (i := 13) rfl))) (by decide) (t := (.array .int)) (t' := (.array (.array .int))) (by decide) (by decide)))
  replace G_inverse := Fld.other W6 G_inverse (Or.inr (slot_ne (Or.inl (hw _ (List.mem_of_getElem? (i := 31) rfl))) (Or.inl (hw _ (List.mem_of_getElem? (i := 13) rfl))) (by decide) (t := (.array (.array .double))) (t' := (.array (.array .int))) (by decide) (by decide)))
  replace G_price := Fld.other W6 G_price (Or.inr (slot_ne (Or.inl (hw _ (List.mem_of_getElem? (i := 33) rfl))) (Or.inl (hw _ (List.mem_of_getElem? (i := 13) rfl))) (by decide) (t := (.array .double)) (t' := (.array (.array .int))) (by decide) (by decide)))
  replace G_pivotSlack := Fld.other W6 G_pivotSlack (Or.inr (slot_ne (Or.inl (hw _ (List.mem_of_getElem? (i := 35) rfl))) (Or.inl (hw _ (List.mem_of_getElem? (i := 13) rfl))) (by decide) (t := (.array .double)) (t' := (.array (.array .int))) (by decide) (by decide)))
  replace G_columns := Fld.other W6 G_columns (Or.inr (slot_ne (Or.inr (hw _ (List.mem_of_getElem? (i := 37) rfl))) (Or.inl (hw _ (List.mem_of_getElem? (i := 13) rfl))) (by decide) (t := .int) (t' := (.array (.array .int))) (by decide) (by decide)))
  replace G_cost := Fld.other W6 G_cost (Or.inr (slot_ne (Or.inr (hw _ (List.mem_of_getElem? (i := 47) rfl))) (Or.inl (hw _ (List.mem_of_getElem? (i := 13) rfl))) (by decide) (t := (.array .double)) (t' := (.array (.array .int))) (by decide) (by decide)))
  replace G_lower := Fld.other W6 G_lower (Or.inr (slot_ne (Or.inr (hw _ (List.mem_of_getElem? (i := 49) rfl))) (Or.inl (hw _ (List.mem_of_getElem? (i := 13) rfl))) (by decide) (t := (.array .double)) (t' := (.array (.array .int))) (by decide) (by decide)))
  replace G_upper := Fld.other W6 G_upper (Or.inr (slot_ne (Or.inr (hw _ (List.mem_of_getElem? (i := 51) rfl))) (Or.inl (hw _ (List.mem_of_getElem? (i := 13) rfl))) (by decide) (t := (.array .double)) (t' := (.array (.array .int))) (by decide) (by decide)))
  replace G_value := Fld.other W6 G_value (Or.inr (slot_ne (Or.inr (hw _ (List.mem_of_getElem? (i := 53) rfl))) (Or.inl (hw _ (List.mem_of_getElem? (i := 13) rfl))) (by decide) (t := (.array .double)) (t' := (.array (.array .int))) (by decide) (by decide)))
  replace G_columnPlace := Fld.other W6 G_columnPlace (Or.inr (slot_ne (Or.inr (hw _ (List.mem_of_getElem? (i := 55) rfl))) (Or.inl (hw _ (List.mem_of_getElem? (i := 13) rfl))) (by decide) (t := (.array .int)) (t' := (.array (.array .int))) (by decide) (by decide)))
  replace G_columnRows := Fld.other W6 G_columnRows (Or.inr (slot_ne (Or.inl (hw _ (List.mem_of_getElem? (i := 62) rfl))) (Or.inl (hw _ (List.mem_of_getElem? (i := 13) rfl))) (by decide) (t := (.array (.array .int))) (t' := (.array (.array .int))) (by decide) (by decide)))
  replace G_columnCoefficients := Fld.other W6 G_columnCoefficients (Or.inr (slot_ne (Or.inl (hw _ (List.mem_of_getElem? (i := 64) rfl))) (Or.inl (hw _ (List.mem_of_getElem? (i := 13) rfl))) (by decide) (t := (.array (.array .double))) (t' := (.array (.array .int))) (by decide) (by decide)))
  replace G_columnLengths := Fld.other W6 G_columnLengths (Or.inr (slot_ne (Or.inl (hw _ (List.mem_of_getElem? (i := 66) rfl))) (Or.inl (hw _ (List.mem_of_getElem? (i := 13) rfl))) (by decide) (t := (.array .int)) (t' := (.array (.array .int))) (by decide) (by decide)))
  replace G_reduced := Fld.other W6 G_reduced (Or.inr (slot_ne (Or.inr (hw _ (List.mem_of_getElem? (i := 68) rfl))) (Or.inl (hw _ (List.mem_of_getElem? (i := 13) rfl))) (by decide) (t := (.array .double)) (t' := (.array (.array .int))) (by decide) (by decide)))
  replace G_pivotRow := Fld.other W6 G_pivotRow (Or.inr (slot_ne (Or.inr (hw _ (List.mem_of_getElem? (i := 70) rfl))) (Or.inl (hw _ (List.mem_of_getElem? (i := 13) rfl))) (by decide) (t := (.array .double)) (t' := (.array (.array .int))) (by decide) (by decide)))
  replace A_ca := A_ca.other W6 n_ca
  replace E_ca := Exa.wr W6 E_ca
  replace A_la := A_la.other W6 n_la
  replace E_la := Exa.wr W6 E_la
  replace A_ua := A_ua.other W6 n_ua
  replace E_ua := Exa.wr W6 E_ua
  replace A_b1 := A_b1.other W6 (Ne.symm ne_a_b1)
  replace G_rowColumns := Fld.same W6 G_rowColumns
  refine aloadN P d1_13 rfl rfl (n := 14) rfl ?_
  refine bipush P d1_14 (x := (16 : Int32)) rfl (n := 16) rfl ?_
  refine newRA P d1_16 (ty := .double) (C := "[D") (ad := "[[D") (by decide) (by decide) (hw _ (List.mem_of_getElem? (i := 14) rfl)) (hw _ (List.mem_of_getElem? (i := 15) rfl)) (k := 16) (cap := 16) ⟨rfl, by decide⟩ (by decide) (by decide) (n := 19) rfl ?_
  intro T h8 b7 P X9 g10 lo_b7 A_b7
  have ne_a_b7 : a ≠ b7 := Nat.ne_of_lt (g10 ▸ E_a.lt)
  have ne_ca_b7 : ca ≠ b7 := Nat.ne_of_lt (g10 ▸ A_ca.lt)
  have ne_la_b7 : la ≠ b7 := Nat.ne_of_lt (g10 ▸ A_la.lt)
  have ne_ua_b7 : ua ≠ b7 := Nat.ne_of_lt (g10 ▸ A_ua.lt)
  replace E_a := Exa.ext X9 E_a
  replace G_rowCoefficients := Fld.ext X9 G_rowCoefficients
  replace G_bound := Fld.ext X9 G_bound
  replace G_slack := Fld.ext X9 G_slack
  replace G_rowPlace := Fld.ext X9 G_rowPlace
  replace G_tight := Fld.ext X9 G_tight
  replace G_basic := Fld.ext X9 G_basic
  replace G_inverse := Fld.ext X9 G_inverse
  replace G_price := Fld.ext X9 G_price
  replace G_pivotSlack := Fld.ext X9 G_pivotSlack
  replace G_columns := Fld.ext X9 G_columns
  replace G_cost := Fld.ext X9 G_cost
  replace G_lower := Fld.ext X9 G_lower
  replace G_upper := Fld.ext X9 G_upper
  replace G_value := Fld.ext X9 G_value
  replace G_columnPlace := Fld.ext X9 G_columnPlace
  replace G_columnRows := Fld.ext X9 G_columnRows
  replace G_columnCoefficients := Fld.ext X9 G_columnCoefficients
  replace G_columnLengths := Fld.ext X9 G_columnLengths
  replace G_reduced := Fld.ext X9 G_reduced
  replace G_pivotRow := Fld.ext X9 G_pivotRow
  replace A_ca := A_ca.ext X9
  replace E_ca := Exa.ext X9 E_ca
  replace A_la := A_la.ext X9
  replace E_la := Exa.ext X9 E_la
  replace A_ua := A_ua.ext X9
  replace E_ua := Exa.ext X9 E_ua
  refine putF P d1_19 (hw _ (List.mem_of_getElem? (i := 16) rfl)) G_rowCoefficients E_a (Or.inl (hw _ (List.mem_of_getElem? (i := 17) rfl))) (hw _ (List.mem_of_getElem? (i := 2) rfl)) (ty := (.array (.array .double))) (by decide) rfl rfl lo_a (n := 22) rfl ?_
  intro T h11 P W12
  replace E_a := Exa.wr W12 E_a
  replace G_bound := Fld.other W12 G_bound (Or.inr (slot_ne (Or.inl (hw _ (List.mem_of_getElem? (i := 19) rfl))) (Or.inl (hw _ (List.mem_of_getElem? (i := 17) rfl))) (by decide) (t := (.array .double)) (t' := (.array (.array .double))) (by decide) (by decide)))
  replace G_slack := Fld.other W12 G_slack (Or.inr (slot_ne (Or.inl (hw _ (List.mem_of_getElem? (i := 21) rfl))) (Or.inl (hw _ (List.mem_of_getElem? (i := 17) rfl))) (by decide) (t := (.array .double)) (t' := (.array (.array .double))) (by decide) (by decide)))
  replace G_rowPlace := Fld.other W12 G_rowPlace (Or.inr (slot_ne (Or.inl (hw _ (List.mem_of_getElem? (i := 24) rfl))) (Or.inl (hw _ (List.mem_of_getElem? (i := 17) rfl))) (by decide) (t := (.array .int)) (t' := (.array (.array .double))) (by decide) (by decide)))
  replace G_tight := Fld.other W12 G_tight (Or.inr (slot_ne (Or.inl (hw _ (List.mem_of_getElem? (i := 26) rfl))) (Or.inl (hw _ (List.mem_of_getElem? (i := 17) rfl))) (by decide) (t := (.array .int)) (t' := (.array (.array .double))) (by decide) (by decide)))
  replace G_basic := Fld.other W12 G_basic (Or.inr (slot_ne (Or.inl (hw _ (List.mem_of_getElem? (i := 28) rfl))) (Or.inl (hw _ (List.mem_of_getElem? (i := 17) rfl))) (by decide) (t := (.array .int)) (t' := (.array (.array .double))) (by decide) (by decide)))
  replace G_inverse := Fld.other W12 G_inverse (Or.inr (slot_ne (Or.inl (hw _ (List.mem_of_getElem? (i := 31) rfl))) (Or.inl (hw _ (List.mem_of_getElem? (i := 17) rfl))) (by decide) (t := (.array (.array .double))) (t' := (.array (.array .double))) (by decide) (by decide)))
  replace G_price := Fld.other W12 G_price (Or.inr (slot_ne (Or.inl (hw _ (List.mem_of_getElem? (i := 33) rfl))) (Or.inl (hw _ (List.mem_of_getElem? (i := 17) rfl))) (by decide) (t := (.array .double)) (t' := (.array (.array .double))) (by decide) (by decide)))
  replace G_pivotSlack := Fld.other W12 G_pivotSlack (Or.inr (slot_ne (Or.inl (hw _ (List.mem_of_getElem? (i := 35) rfl))) (Or.inl (hw _ (List.mem_of_getElem? (i := 17) rfl))) (by decide) (t := (.array .double)) (t' := (.array (.array .double))) (by decide) (by decide)))
  replace G_columns := Fld.other W12 G_columns (Or.inr (slot_ne (Or.inr (hw _ (List.mem_of_getElem? (i := 37) rfl))) (Or.inl (hw _ (List.mem_of_getElem? (i := 17) rfl))) (by decide) (t := .int) (t' := (.array (.array .double))) (by decide) (by decide)))
  replace G_cost := Fld.other W12 G_cost (Or.inr (slot_ne (Or.inr (hw _ (List.mem_of_getElem? (i := 47) rfl))) (Or.inl (hw _ (List.mem_of_getElem? (i := 17) rfl))) (by decide) (t := (.array .double)) (t' := (.array (.array .double))) (by decide) (by decide)))
  replace G_lower := Fld.other W12 G_lower (Or.inr (slot_ne (Or.inr (hw _ (List.mem_of_getElem? (i := 49) rfl))) (Or.inl (hw _ (List.mem_of_getElem? (i := 17) rfl))) (by decide) (t := (.array .double)) (t' := (.array (.array .double))) (by decide) (by decide)))
  replace G_upper := Fld.other W12 G_upper (Or.inr (slot_ne (Or.inr (hw _ (List.mem_of_getElem? (i := 51) rfl))) (Or.inl (hw _ (List.mem_of_getElem? (i := 17) rfl))) (by decide) (t := (.array .double)) (t' := (.array (.array .double))) (by decide) (by decide)))
  replace G_value := Fld.other W12 G_value (Or.inr (slot_ne (Or.inr (hw _ (List.mem_of_getElem? (i := 53) rfl))) (Or.inl (hw _ (List.mem_of_getElem? (i := 17) rfl))) (by decide) (t := (.array .double)) (t' := (.array (.array .double))) (by decide) (by decide)))
  replace G_columnPlace := Fld.other W12 G_columnPlace (Or.inr (slot_ne (Or.inr (hw _ (List.mem_of_getElem? (i := 55) rfl))) (Or.inl (hw _ (List.mem_of_getElem? (i := 17) rfl))) (by decide) (t := (.array .int)) (t' := (.array (.array .double))) (by decide) (by decide)))
  replace G_columnRows := Fld.other W12 G_columnRows (Or.inr (slot_ne (Or.inl (hw _ (List.mem_of_getElem? (i := 62) rfl))) (Or.inl (hw _ (List.mem_of_getElem? (i := 17) rfl))) (by decide) (t := (.array (.array .int))) (t' := (.array (.array .double))) (by decide) (by decide)))
  replace G_columnCoefficients := Fld.other W12 G_columnCoefficients (Or.inr (slot_ne (Or.inl (hw _ (List.mem_of_getElem? (i := 64) rfl))) (Or.inl (hw _ (List.mem_of_getElem? (i := 17) rfl))) (by decide) (t := (.array (.array .double))) (t' := (.array (.array .double))) (by decide) (by decide)))
  replace G_columnLengths := Fld.other W12 G_columnLengths (Or.inr (slot_ne (Or.inl (hw _ (List.mem_of_getElem? (i := 66) rfl))) (Or.inl (hw _ (List.mem_of_getElem? (i := 17) rfl))) (by decide) (t := (.array .int)) (t' := (.array (.array .double))) (by decide) (by decide)))
  replace G_reduced := Fld.other W12 G_reduced (Or.inr (slot_ne (Or.inr (hw _ (List.mem_of_getElem? (i := 68) rfl))) (Or.inl (hw _ (List.mem_of_getElem? (i := 17) rfl))) (by decide) (t := (.array .double)) (t' := (.array (.array .double))) (by decide) (by decide)))
  replace G_pivotRow := Fld.other W12 G_pivotRow (Or.inr (slot_ne (Or.inr (hw _ (List.mem_of_getElem? (i := 70) rfl))) (Or.inl (hw _ (List.mem_of_getElem? (i := 17) rfl))) (by decide) (t := (.array .double)) (t' := (.array (.array .double))) (by decide) (by decide)))
  replace A_ca := A_ca.other W12 n_ca
  replace E_ca := Exa.wr W12 E_ca
  replace A_la := A_la.other W12 n_la
  replace E_la := Exa.wr W12 E_la
  replace A_ua := A_ua.other W12 n_ua
  replace E_ua := Exa.wr W12 E_ua
  replace A_b7 := A_b7.other W12 (Ne.symm ne_a_b7)
  replace G_rowCoefficients := Fld.same W12 G_rowCoefficients
  refine aloadN P d1_22 rfl rfl (n := 23) rfl ?_
  refine bipush P d1_23 (x := (16 : Int32)) rfl (n := 25) rfl ?_
  refine newPE P d1_25 (ad := "[D") (hw _ (List.mem_of_getElem? (i := 0) rfl)) (k := 16) (cap := 16) ⟨rfl, by decide⟩ (by decide) (by decide) (by decide) (n := 27) rfl ?_
  intro T h14 b13 P X15 g16 lo_b13 A_b13 E_b13
  have ne_a_b13 : a ≠ b13 := Nat.ne_of_lt (g16 ▸ E_a.lt)
  have ne_ca_b13 : ca ≠ b13 := Nat.ne_of_lt (g16 ▸ A_ca.lt)
  have ne_la_b13 : la ≠ b13 := Nat.ne_of_lt (g16 ▸ A_la.lt)
  have ne_ua_b13 : ua ≠ b13 := Nat.ne_of_lt (g16 ▸ A_ua.lt)
  replace E_a := Exa.ext X15 E_a
  replace G_bound := Fld.ext X15 G_bound
  replace G_slack := Fld.ext X15 G_slack
  replace G_rowPlace := Fld.ext X15 G_rowPlace
  replace G_tight := Fld.ext X15 G_tight
  replace G_basic := Fld.ext X15 G_basic
  replace G_inverse := Fld.ext X15 G_inverse
  replace G_price := Fld.ext X15 G_price
  replace G_pivotSlack := Fld.ext X15 G_pivotSlack
  replace G_columns := Fld.ext X15 G_columns
  replace G_cost := Fld.ext X15 G_cost
  replace G_lower := Fld.ext X15 G_lower
  replace G_upper := Fld.ext X15 G_upper
  replace G_value := Fld.ext X15 G_value
  replace G_columnPlace := Fld.ext X15 G_columnPlace
  replace G_columnRows := Fld.ext X15 G_columnRows
  replace G_columnCoefficients := Fld.ext X15 G_columnCoefficients
  replace G_columnLengths := Fld.ext X15 G_columnLengths
  replace G_reduced := Fld.ext X15 G_reduced
  replace G_pivotRow := Fld.ext X15 G_pivotRow
  replace A_ca := A_ca.ext X15
  replace E_ca := Exa.ext X15 E_ca
  replace A_la := A_la.ext X15
  replace E_la := Exa.ext X15 E_la
  replace A_ua := A_ua.ext X15
  replace E_ua := Exa.ext X15 E_ua
  replace A_b13 : ARD Z h14 b13 16 (fun _ => 0) := A_b13
  refine putF P d1_27 (hw _ (List.mem_of_getElem? (i := 18) rfl)) G_bound E_a (Or.inl (hw _ (List.mem_of_getElem? (i := 19) rfl))) (hw _ (List.mem_of_getElem? (i := 2) rfl)) (ty := (.array .double)) (by decide) rfl rfl lo_a (n := 30) rfl ?_
  intro T h17 P W18
  replace E_a := Exa.wr W18 E_a
  replace G_slack := Fld.other W18 G_slack (Or.inr (slot_ne (Or.inl (hw _ (List.mem_of_getElem? (i := 21) rfl))) (Or.inl (hw _ (List.mem_of_getElem? (i := 19) rfl))) (by decide) (t := (.array .double)) (t' := (.array .double)) (by decide) (by decide)))
  replace G_rowPlace := Fld.other W18 G_rowPlace (Or.inr (slot_ne (Or.inl (hw _ (List.mem_of_getElem? (i := 24) rfl))) (Or.inl (hw _ (List.mem_of_getElem? (i := 19) rfl))) (by decide) (t := (.array .int)) (t' := (.array .double)) (by decide) (by decide)))
  replace G_tight := Fld.other W18 G_tight (Or.inr (slot_ne (Or.inl (hw _ (List.mem_of_getElem? (i := 26) rfl))) (Or.inl (hw _ (List.mem_of_getElem? (i := 19) rfl))) (by decide) (t := (.array .int)) (t' := (.array .double)) (by decide) (by decide)))
  replace G_basic := Fld.other W18 G_basic (Or.inr (slot_ne (Or.inl (hw _ (List.mem_of_getElem? (i := 28) rfl))) (Or.inl (hw _ (List.mem_of_getElem? (i := 19) rfl))) (by decide) (t := (.array .int)) (t' := (.array .double)) (by decide) (by decide)))
  replace G_inverse := Fld.other W18 G_inverse (Or.inr (slot_ne (Or.inl (hw _ (List.mem_of_getElem? (i := 31) rfl))) (Or.inl (hw _ (List.mem_of_getElem? (i := 19) rfl))) (by decide) (t := (.array (.array .double))) (t' := (.array .double)) (by decide) (by decide)))
  replace G_price := Fld.other W18 G_price (Or.inr (slot_ne (Or.inl (hw _ (List.mem_of_getElem? (i := 33) rfl))) (Or.inl (hw _ (List.mem_of_getElem? (i := 19) rfl))) (by decide) (t := (.array .double)) (t' := (.array .double)) (by decide) (by decide)))
  replace G_pivotSlack := Fld.other W18 G_pivotSlack (Or.inr (slot_ne (Or.inl (hw _ (List.mem_of_getElem? (i := 35) rfl))) (Or.inl (hw _ (List.mem_of_getElem? (i := 19) rfl))) (by decide) (t := (.array .double)) (t' := (.array .double)) (by decide) (by decide)))
  replace G_columns := Fld.other W18 G_columns (Or.inr (slot_ne (Or.inr (hw _ (List.mem_of_getElem? (i := 37) rfl))) (Or.inl (hw _ (List.mem_of_getElem? (i := 19) rfl))) (by decide) (t := .int) (t' := (.array .double)) (by decide) (by decide)))
  replace G_cost := Fld.other W18 G_cost (Or.inr (slot_ne (Or.inr (hw _ (List.mem_of_getElem? (i := 47) rfl))) (Or.inl (hw _ (List.mem_of_getElem? (i := 19) rfl))) (by decide) (t := (.array .double)) (t' := (.array .double)) (by decide) (by decide)))
  replace G_lower := Fld.other W18 G_lower (Or.inr (slot_ne (Or.inr (hw _ (List.mem_of_getElem? (i := 49) rfl))) (Or.inl (hw _ (List.mem_of_getElem? (i := 19) rfl))) (by decide) (t := (.array .double)) (t' := (.array .double)) (by decide) (by decide)))
  replace G_upper := Fld.other W18 G_upper (Or.inr (slot_ne (Or.inr (hw _ (List.mem_of_getElem? (i := 51) rfl))) (Or.inl (hw _ (List.mem_of_getElem? (i := 19) rfl))) (by decide) (t := (.array .double)) (t' := (.array .double)) (by decide) (by decide)))
  replace G_value := Fld.other W18 G_value (Or.inr (slot_ne (Or.inr (hw _ (List.mem_of_getElem? (i := 53) rfl))) (Or.inl (hw _ (List.mem_of_getElem? (i := 19) rfl))) (by decide) (t := (.array .double)) (t' := (.array .double)) (by decide) (by decide)))
  replace G_columnPlace := Fld.other W18 G_columnPlace (Or.inr (slot_ne (Or.inr (hw _ (List.mem_of_getElem? (i := 55) rfl))) (Or.inl (hw _ (List.mem_of_getElem? (i := 19) rfl))) (by decide) (t := (.array .int)) (t' := (.array .double)) (by decide) (by decide)))
  replace G_columnRows := Fld.other W18 G_columnRows (Or.inr (slot_ne (Or.inl (hw _ (List.mem_of_getElem? (i := 62) rfl))) (Or.inl (hw _ (List.mem_of_getElem? (i := 19) rfl))) (by decide) (t := (.array (.array .int))) (t' := (.array .double)) (by decide) (by decide)))
  replace G_columnCoefficients := Fld.other W18 G_columnCoefficients (Or.inr (slot_ne (Or.inl (hw _ (List.mem_of_getElem? (i := 64) rfl))) (Or.inl (hw _ (List.mem_of_getElem? (i := 19) rfl))) (by decide) (t := (.array (.array .double))) (t' := (.array .double)) (by decide) (by decide)))
  replace G_columnLengths := Fld.other W18 G_columnLengths (Or.inr (slot_ne (Or.inl (hw _ (List.mem_of_getElem? (i := 66) rfl))) (Or.inl (hw _ (List.mem_of_getElem? (i := 19) rfl))) (by decide) (t := (.array .int)) (t' := (.array .double)) (by decide) (by decide)))
  replace G_reduced := Fld.other W18 G_reduced (Or.inr (slot_ne (Or.inr (hw _ (List.mem_of_getElem? (i := 68) rfl))) (Or.inl (hw _ (List.mem_of_getElem? (i := 19) rfl))) (by decide) (t := (.array .double)) (t' := (.array .double)) (by decide) (by decide)))
  replace G_pivotRow := Fld.other W18 G_pivotRow (Or.inr (slot_ne (Or.inr (hw _ (List.mem_of_getElem? (i := 70) rfl))) (Or.inl (hw _ (List.mem_of_getElem? (i := 19) rfl))) (by decide) (t := (.array .double)) (t' := (.array .double)) (by decide) (by decide)))
  replace A_ca := A_ca.other W18 n_ca
  replace E_ca := Exa.wr W18 E_ca
  replace A_la := A_la.other W18 n_la
  replace E_la := Exa.wr W18 E_la
  replace A_ua := A_ua.other W18 n_ua
  replace E_ua := Exa.wr W18 E_ua
  replace A_b13 := A_b13.other W18 (Ne.symm ne_a_b13)
  replace E_b13 := Exa.wr W18 E_b13
  replace G_bound := Fld.same W18 G_bound
  refine aloadN P d1_30 rfl rfl (n := 31) rfl ?_
  refine bipush P d1_31 (x := (16 : Int32)) rfl (n := 33) rfl ?_
  refine newPE P d1_33 (ad := "[D") (hw _ (List.mem_of_getElem? (i := 0) rfl)) (k := 16) (cap := 16) ⟨rfl, by decide⟩ (by decide) (by decide) (by decide) (n := 35) rfl ?_
  intro T h20 b19 P X21 g22 lo_b19 A_b19 E_b19
  have ne_a_b19 : a ≠ b19 := Nat.ne_of_lt (g22 ▸ E_a.lt)
  have ne_ca_b19 : ca ≠ b19 := Nat.ne_of_lt (g22 ▸ A_ca.lt)
  have ne_la_b19 : la ≠ b19 := Nat.ne_of_lt (g22 ▸ A_la.lt)
  have ne_ua_b19 : ua ≠ b19 := Nat.ne_of_lt (g22 ▸ A_ua.lt)
  replace E_a := Exa.ext X21 E_a
  replace G_slack := Fld.ext X21 G_slack
  replace G_rowPlace := Fld.ext X21 G_rowPlace
  replace G_tight := Fld.ext X21 G_tight
  replace G_basic := Fld.ext X21 G_basic
  replace G_inverse := Fld.ext X21 G_inverse
  replace G_price := Fld.ext X21 G_price
  replace G_pivotSlack := Fld.ext X21 G_pivotSlack
  replace G_columns := Fld.ext X21 G_columns
  replace G_cost := Fld.ext X21 G_cost
  replace G_lower := Fld.ext X21 G_lower
  replace G_upper := Fld.ext X21 G_upper
  replace G_value := Fld.ext X21 G_value
  replace G_columnPlace := Fld.ext X21 G_columnPlace
  replace G_columnRows := Fld.ext X21 G_columnRows
  replace G_columnCoefficients := Fld.ext X21 G_columnCoefficients
  replace G_columnLengths := Fld.ext X21 G_columnLengths
  replace G_reduced := Fld.ext X21 G_reduced
  replace G_pivotRow := Fld.ext X21 G_pivotRow
  replace A_ca := A_ca.ext X21
  replace E_ca := Exa.ext X21 E_ca
  replace A_la := A_la.ext X21
  replace E_la := Exa.ext X21 E_la
  replace A_ua := A_ua.ext X21
  replace E_ua := Exa.ext X21 E_ua
  replace A_b19 : ARD Z h20 b19 16 (fun _ => 0) := A_b19
  refine putF P d1_35 (hw _ (List.mem_of_getElem? (i := 20) rfl)) G_slack E_a (Or.inl (hw _ (List.mem_of_getElem? (i := 21) rfl))) (hw _ (List.mem_of_getElem? (i := 2) rfl)) (ty := (.array .double)) (by decide) rfl rfl lo_a (n := 38) rfl ?_
  intro T h23 P W24
  replace E_a := Exa.wr W24 E_a
  replace G_rowPlace := Fld.other W24 G_rowPlace (Or.inr (slot_ne (Or.inl (hw _ (List.mem_of_getElem? (i := 24) rfl))) (Or.inl (hw _ (List.mem_of_getElem? (i := 21) rfl))) (by decide) (t := (.array .int)) (t' := (.array .double)) (by decide) (by decide)))
  replace G_tight := Fld.other W24 G_tight (Or.inr (slot_ne (Or.inl (hw _ (List.mem_of_getElem? (i := 26) rfl))) (Or.inl (hw _ (List.mem_of_getElem? (i := 21) rfl))) (by decide) (t := (.array .int)) (t' := (.array .double)) (by decide) (by decide)))
  replace G_basic := Fld.other W24 G_basic (Or.inr (slot_ne (Or.inl (hw _ (List.mem_of_getElem? (i := 28) rfl))) (Or.inl (hw _ (List.mem_of_getElem? (i := 21) rfl))) (by decide) (t := (.array .int)) (t' := (.array .double)) (by decide) (by decide)))
  replace G_inverse := Fld.other W24 G_inverse (Or.inr (slot_ne (Or.inl (hw _ (List.mem_of_getElem? (i := 31) rfl))) (Or.inl (hw _ (List.mem_of_getElem? (i := 21) rfl))) (by decide) (t := (.array (.array .double))) (t' := (.array .double)) (by decide) (by decide)))
  replace G_price := Fld.other W24 G_price (Or.inr (slot_ne (Or.inl (hw _ (List.mem_of_getElem? (i := 33) rfl))) (Or.inl (hw _ (List.mem_of_getElem? (i := 21) rfl))) (by decide) (t := (.array .double)) (t' := (.array .double)) (by decide) (by decide)))
  replace G_pivotSlack := Fld.other W24 G_pivotSlack (Or.inr (slot_ne (Or.inl (hw _ (List.mem_of_getElem? (i := 35) rfl))) (Or.inl (hw _ (List.mem_of_getElem? (i := 21) rfl))) (by decide) (t := (.array .double)) (t' := (.array .double)) (by decide) (by decide)))
  replace G_columns := Fld.other W24 G_columns (Or.inr (slot_ne (Or.inr (hw _ (List.mem_of_getElem? (i := 37) rfl))) (Or.inl (hw _ (List.mem_of_getElem? (i := 21) rfl))) (by decide) (t := .int) (t' := (.array .double)) (by decide) (by decide)))
  replace G_cost := Fld.other W24 G_cost (Or.inr (slot_ne (Or.inr (hw _ (List.mem_of_getElem? (i := 47) rfl))) (Or.inl (hw _ (List.mem_of_getElem? (i := 21) rfl))) (by decide) (t := (.array .double)) (t' := (.array .double)) (by decide) (by decide)))
  replace G_lower := Fld.other W24 G_lower (Or.inr (slot_ne (Or.inr (hw _ (List.mem_of_getElem? (i := 49) rfl))) (Or.inl (hw _ (List.mem_of_getElem? (i := 21) rfl))) (by decide) (t := (.array .double)) (t' := (.array .double)) (by decide) (by decide)))
  replace G_upper := Fld.other W24 G_upper (Or.inr (slot_ne (Or.inr (hw _ (List.mem_of_getElem? (i := 51) rfl))) (Or.inl (hw _ (List.mem_of_getElem? (i := 21) rfl))) (by decide) (t := (.array .double)) (t' := (.array .double)) (by decide) (by decide)))
  replace G_value := Fld.other W24 G_value (Or.inr (slot_ne (Or.inr (hw _ (List.mem_of_getElem? (i := 53) rfl))) (Or.inl (hw _ (List.mem_of_getElem? (i := 21) rfl))) (by decide) (t := (.array .double)) (t' := (.array .double)) (by decide) (by decide)))
  replace G_columnPlace := Fld.other W24 G_columnPlace (Or.inr (slot_ne (Or.inr (hw _ (List.mem_of_getElem? (i := 55) rfl))) (Or.inl (hw _ (List.mem_of_getElem? (i := 21) rfl))) (by decide) (t := (.array .int)) (t' := (.array .double)) (by decide) (by decide)))
  replace G_columnRows := Fld.other W24 G_columnRows (Or.inr (slot_ne (Or.inl (hw _ (List.mem_of_getElem? (i := 62) rfl))) (Or.inl (hw _ (List.mem_of_getElem? (i := 21) rfl))) (by decide) (t := (.array (.array .int))) (t' := (.array .double)) (by decide) (by decide)))
  replace G_columnCoefficients := Fld.other W24 G_columnCoefficients (Or.inr (slot_ne (Or.inl (hw _ (List.mem_of_getElem? (i := 64) rfl))) (Or.inl (hw _ (List.mem_of_getElem? (i := 21) rfl))) (by decide) (t := (.array (.array .double))) (t' := (.array .double)) (by decide) (by decide)))
  replace G_columnLengths := Fld.other W24 G_columnLengths (Or.inr (slot_ne (Or.inl (hw _ (List.mem_of_getElem? (i := 66) rfl))) (Or.inl (hw _ (List.mem_of_getElem? (i := 21) rfl))) (by decide) (t := (.array .int)) (t' := (.array .double)) (by decide) (by decide)))
  replace G_reduced := Fld.other W24 G_reduced (Or.inr (slot_ne (Or.inr (hw _ (List.mem_of_getElem? (i := 68) rfl))) (Or.inl (hw _ (List.mem_of_getElem? (i := 21) rfl))) (by decide) (t := (.array .double)) (t' := (.array .double)) (by decide) (by decide)))
  replace G_pivotRow := Fld.other W24 G_pivotRow (Or.inr (slot_ne (Or.inr (hw _ (List.mem_of_getElem? (i := 70) rfl))) (Or.inl (hw _ (List.mem_of_getElem? (i := 21) rfl))) (by decide) (t := (.array .double)) (t' := (.array .double)) (by decide) (by decide)))
  replace A_ca := A_ca.other W24 n_ca
  replace E_ca := Exa.wr W24 E_ca
  replace A_la := A_la.other W24 n_la
  replace E_la := Exa.wr W24 E_la
  replace A_ua := A_ua.other W24 n_ua
  replace E_ua := Exa.wr W24 E_ua
  replace A_b19 := A_b19.other W24 (Ne.symm ne_a_b19)
  replace E_b19 := Exa.wr W24 E_b19
  replace G_slack := Fld.same W24 G_slack
  refine aloadN P d1_38 rfl rfl (n := 39) rfl ?_
  refine bipush P d1_39 (x := (16 : Int32)) rfl (n := 41) rfl ?_
  refine newP P d1_41 (hw _ (List.mem_of_getElem? (i := 22) rfl)) (k := 16) (cap := 16) ⟨rfl, by decide⟩ (by decide) (by decide) (n := 43) rfl ?_
  intro T h26 b25 P X27 g28 lo_b25 A_b25
  have ne_a_b25 : a ≠ b25 := Nat.ne_of_lt (g28 ▸ E_a.lt)
  have ne_ca_b25 : ca ≠ b25 := Nat.ne_of_lt (g28 ▸ A_ca.lt)
  have ne_la_b25 : la ≠ b25 := Nat.ne_of_lt (g28 ▸ A_la.lt)
  have ne_ua_b25 : ua ≠ b25 := Nat.ne_of_lt (g28 ▸ A_ua.lt)
  replace E_a := Exa.ext X27 E_a
  replace G_rowPlace := Fld.ext X27 G_rowPlace
  replace G_tight := Fld.ext X27 G_tight
  replace G_basic := Fld.ext X27 G_basic
  replace G_inverse := Fld.ext X27 G_inverse
  replace G_price := Fld.ext X27 G_price
  replace G_pivotSlack := Fld.ext X27 G_pivotSlack
  replace G_columns := Fld.ext X27 G_columns
  replace G_cost := Fld.ext X27 G_cost
  replace G_lower := Fld.ext X27 G_lower
  replace G_upper := Fld.ext X27 G_upper
  replace G_value := Fld.ext X27 G_value
  replace G_columnPlace := Fld.ext X27 G_columnPlace
  replace G_columnRows := Fld.ext X27 G_columnRows
  replace G_columnCoefficients := Fld.ext X27 G_columnCoefficients
  replace G_columnLengths := Fld.ext X27 G_columnLengths
  replace G_reduced := Fld.ext X27 G_reduced
  replace G_pivotRow := Fld.ext X27 G_pivotRow
  replace A_ca := A_ca.ext X27
  replace E_ca := Exa.ext X27 E_ca
  replace A_la := A_la.ext X27
  replace E_la := Exa.ext X27 E_la
  replace A_ua := A_ua.ext X27
  replace E_ua := Exa.ext X27 E_ua
  replace A_b25 : ARI Z h26 b25 .int 16 (fun _ => 0) := A_b25
  refine putF P d1_43 (hw _ (List.mem_of_getElem? (i := 23) rfl)) G_rowPlace E_a (Or.inl (hw _ (List.mem_of_getElem? (i := 24) rfl))) (hw _ (List.mem_of_getElem? (i := 2) rfl)) (ty := (.array .int)) (by decide) rfl rfl lo_a (n := 46) rfl ?_
  intro T h29 P W30
  replace E_a := Exa.wr W30 E_a
  replace G_tight := Fld.other W30 G_tight (Or.inr (slot_ne (Or.inl (hw _ (List.mem_of_getElem? (i := 26) rfl))) (Or.inl (hw _ (List.mem_of_getElem? (i := 24) rfl))) (by decide) (t := (.array .int)) (t' := (.array .int)) (by decide) (by decide)))
  replace G_basic := Fld.other W30 G_basic (Or.inr (slot_ne (Or.inl (hw _ (List.mem_of_getElem? (i := 28) rfl))) (Or.inl (hw _ (List.mem_of_getElem? (i := 24) rfl))) (by decide) (t := (.array .int)) (t' := (.array .int)) (by decide) (by decide)))
  replace G_inverse := Fld.other W30 G_inverse (Or.inr (slot_ne (Or.inl (hw _ (List.mem_of_getElem? (i := 31) rfl))) (Or.inl (hw _ (List.mem_of_getElem? (i := 24) rfl))) (by decide) (t := (.array (.array .double))) (t' := (.array .int)) (by decide) (by decide)))
  replace G_price := Fld.other W30 G_price (Or.inr (slot_ne (Or.inl (hw _ (List.mem_of_getElem? (i := 33) rfl))) (Or.inl (hw _ (List.mem_of_getElem? (i := 24) rfl))) (by decide) (t := (.array .double)) (t' := (.array .int)) (by decide) (by decide)))
  replace G_pivotSlack := Fld.other W30 G_pivotSlack (Or.inr (slot_ne (Or.inl (hw _ (List.mem_of_getElem? (i := 35) rfl))) (Or.inl (hw _ (List.mem_of_getElem? (i := 24) rfl))) (by decide) (t := (.array .double)) (t' := (.array .int)) (by decide) (by decide)))
  replace G_columns := Fld.other W30 G_columns (Or.inr (slot_ne (Or.inr (hw _ (List.mem_of_getElem? (i := 37) rfl))) (Or.inl (hw _ (List.mem_of_getElem? (i := 24) rfl))) (by decide) (t := .int) (t' := (.array .int)) (by decide) (by decide)))
  replace G_cost := Fld.other W30 G_cost (Or.inr (slot_ne (Or.inr (hw _ (List.mem_of_getElem? (i := 47) rfl))) (Or.inl (hw _ (List.mem_of_getElem? (i := 24) rfl))) (by decide) (t := (.array .double)) (t' := (.array .int)) (by decide) (by decide)))
  replace G_lower := Fld.other W30 G_lower (Or.inr (slot_ne (Or.inr (hw _ (List.mem_of_getElem? (i := 49) rfl))) (Or.inl (hw _ (List.mem_of_getElem? (i := 24) rfl))) (by decide) (t := (.array .double)) (t' := (.array .int)) (by decide) (by decide)))
  replace G_upper := Fld.other W30 G_upper (Or.inr (slot_ne (Or.inr (hw _ (List.mem_of_getElem? (i := 51) rfl))) (Or.inl (hw _ (List.mem_of_getElem? (i := 24) rfl))) (by decide) (t := (.array .double)) (t' := (.array .int)) (by decide) (by decide)))
  replace G_value := Fld.other W30 G_value (Or.inr (slot_ne (Or.inr (hw _ (List.mem_of_getElem? (i := 53) rfl))) (Or.inl (hw _ (List.mem_of_getElem? (i := 24) rfl))) (by decide) (t := (.array .double)) (t' := (.array .int)) (by decide) (by decide)))
  replace G_columnPlace := Fld.other W30 G_columnPlace (Or.inr (slot_ne (Or.inr (hw _ (List.mem_of_getElem? (i := 55) rfl))) (Or.inl (hw _ (List.mem_of_getElem? (i := 24) rfl))) (by decide) (t := (.array .int)) (t' := (.array .int)) (by decide) (by decide)))
  replace G_columnRows := Fld.other W30 G_columnRows (Or.inr (slot_ne (Or.inl (hw _ (List.mem_of_getElem? (i := 62) rfl))) (Or.inl (hw _ (List.mem_of_getElem? (i := 24) rfl))) (by decide) (t := (.array (.array .int))) (t' := (.array .int)) (by decide) (by decide)))
  replace G_columnCoefficients := Fld.other W30 G_columnCoefficients (Or.inr (slot_ne (Or.inl (hw _ (List.mem_of_getElem? (i := 64) rfl))) (Or.inl (hw _ (List.mem_of_getElem? (i := 24) rfl))) (by decide) (t := (.array (.array .double))) (t' := (.array .int)) (by decide) (by decide)))
  replace G_columnLengths := Fld.other W30 G_columnLengths (Or.inr (slot_ne (Or.inl (hw _ (List.mem_of_getElem? (i := 66) rfl))) (Or.inl (hw _ (List.mem_of_getElem? (i := 24) rfl))) (by decide) (t := (.array .int)) (t' := (.array .int)) (by decide) (by decide)))
  replace G_reduced := Fld.other W30 G_reduced (Or.inr (slot_ne (Or.inr (hw _ (List.mem_of_getElem? (i := 68) rfl))) (Or.inl (hw _ (List.mem_of_getElem? (i := 24) rfl))) (by decide) (t := (.array .double)) (t' := (.array .int)) (by decide) (by decide)))
  replace G_pivotRow := Fld.other W30 G_pivotRow (Or.inr (slot_ne (Or.inr (hw _ (List.mem_of_getElem? (i := 70) rfl))) (Or.inl (hw _ (List.mem_of_getElem? (i := 24) rfl))) (by decide) (t := (.array .double)) (t' := (.array .int)) (by decide) (by decide)))
  replace A_ca := A_ca.other W30 n_ca
  replace E_ca := Exa.wr W30 E_ca
  replace A_la := A_la.other W30 n_la
  replace E_la := Exa.wr W30 E_la
  replace A_ua := A_ua.other W30 n_ua
  replace E_ua := Exa.wr W30 E_ua
  replace A_b25 := A_b25.other W30 (Ne.symm ne_a_b25)
  replace G_rowPlace := Fld.same W30 G_rowPlace
  refine aloadN P d1_46 rfl rfl (n := 47) rfl ?_
  refine bipush P d1_47 (x := (16 : Int32)) rfl (n := 49) rfl ?_
  refine newP P d1_49 (hw _ (List.mem_of_getElem? (i := 22) rfl)) (k := 16) (cap := 16) ⟨rfl, by decide⟩ (by decide) (by decide) (n := 51) rfl ?_
  intro T h32 b31 P X33 g34 lo_b31 A_b31
  have ne_a_b31 : a ≠ b31 := Nat.ne_of_lt (g34 ▸ E_a.lt)
  have ne_ca_b31 : ca ≠ b31 := Nat.ne_of_lt (g34 ▸ A_ca.lt)
  have ne_la_b31 : la ≠ b31 := Nat.ne_of_lt (g34 ▸ A_la.lt)
  have ne_ua_b31 : ua ≠ b31 := Nat.ne_of_lt (g34 ▸ A_ua.lt)
  replace E_a := Exa.ext X33 E_a
  replace G_tight := Fld.ext X33 G_tight
  replace G_basic := Fld.ext X33 G_basic
  replace G_inverse := Fld.ext X33 G_inverse
  replace G_price := Fld.ext X33 G_price
  replace G_pivotSlack := Fld.ext X33 G_pivotSlack
  replace G_columns := Fld.ext X33 G_columns
  replace G_cost := Fld.ext X33 G_cost
  replace G_lower := Fld.ext X33 G_lower
  replace G_upper := Fld.ext X33 G_upper
  replace G_value := Fld.ext X33 G_value
  replace G_columnPlace := Fld.ext X33 G_columnPlace
  replace G_columnRows := Fld.ext X33 G_columnRows
  replace G_columnCoefficients := Fld.ext X33 G_columnCoefficients
  replace G_columnLengths := Fld.ext X33 G_columnLengths
  replace G_reduced := Fld.ext X33 G_reduced
  replace G_pivotRow := Fld.ext X33 G_pivotRow
  replace A_ca := A_ca.ext X33
  replace E_ca := Exa.ext X33 E_ca
  replace A_la := A_la.ext X33
  replace E_la := Exa.ext X33 E_la
  replace A_ua := A_ua.ext X33
  replace E_ua := Exa.ext X33 E_ua
  replace A_b31 : ARI Z h32 b31 .int 16 (fun _ => 0) := A_b31
  refine putF P d1_51 (hw _ (List.mem_of_getElem? (i := 25) rfl)) G_tight E_a (Or.inl (hw _ (List.mem_of_getElem? (i := 26) rfl))) (hw _ (List.mem_of_getElem? (i := 2) rfl)) (ty := (.array .int)) (by decide) rfl rfl lo_a (n := 54) rfl ?_
  intro T h35 P W36
  replace E_a := Exa.wr W36 E_a
  replace G_basic := Fld.other W36 G_basic (Or.inr (slot_ne (Or.inl (hw _ (List.mem_of_getElem? (i := 28) rfl))) (Or.inl (hw _ (List.mem_of_getElem? (i := 26) rfl))) (by decide) (t := (.array .int)) (t' := (.array .int)) (by decide) (by decide)))
  replace G_inverse := Fld.other W36 G_inverse (Or.inr (slot_ne (Or.inl (hw _ (List.mem_of_getElem? (i := 31) rfl))) (Or.inl (hw _ (List.mem_of_getElem? (i := 26) rfl))) (by decide) (t := (.array (.array .double))) (t' := (.array .int)) (by decide) (by decide)))
  replace G_price := Fld.other W36 G_price (Or.inr (slot_ne (Or.inl (hw _ (List.mem_of_getElem? (i := 33) rfl))) (Or.inl (hw _ (List.mem_of_getElem? (i := 26) rfl))) (by decide) (t := (.array .double)) (t' := (.array .int)) (by decide) (by decide)))
  replace G_pivotSlack := Fld.other W36 G_pivotSlack (Or.inr (slot_ne (Or.inl (hw _ (List.mem_of_getElem? (i := 35) rfl))) (Or.inl (hw _ (List.mem_of_getElem? (i := 26) rfl))) (by decide) (t := (.array .double)) (t' := (.array .int)) (by decide) (by decide)))
  replace G_columns := Fld.other W36 G_columns (Or.inr (slot_ne (Or.inr (hw _ (List.mem_of_getElem? (i := 37) rfl))) (Or.inl (hw _ (List.mem_of_getElem? (i := 26) rfl))) (by decide) (t := .int) (t' := (.array .int)) (by decide) (by decide)))
  replace G_cost := Fld.other W36 G_cost (Or.inr (slot_ne (Or.inr (hw _ (List.mem_of_getElem? (i := 47) rfl))) (Or.inl (hw _ (List.mem_of_getElem? (i := 26) rfl))) (by decide) (t := (.array .double)) (t' := (.array .int)) (by decide) (by decide)))
  replace G_lower := Fld.other W36 G_lower (Or.inr (slot_ne (Or.inr (hw _ (List.mem_of_getElem? (i := 49) rfl))) (Or.inl (hw _ (List.mem_of_getElem? (i := 26) rfl))) (by decide) (t := (.array .double)) (t' := (.array .int)) (by decide) (by decide)))
  replace G_upper := Fld.other W36 G_upper (Or.inr (slot_ne (Or.inr (hw _ (List.mem_of_getElem? (i := 51) rfl))) (Or.inl (hw _ (List.mem_of_getElem? (i := 26) rfl))) (by decide) (t := (.array .double)) (t' := (.array .int)) (by decide) (by decide)))
  replace G_value := Fld.other W36 G_value (Or.inr (slot_ne (Or.inr (hw _ (List.mem_of_getElem? (i := 53) rfl))) (Or.inl (hw _ (List.mem_of_getElem? (i := 26) rfl))) (by decide) (t := (.array .double)) (t' := (.array .int)) (by decide) (by decide)))
  replace G_columnPlace := Fld.other W36 G_columnPlace (Or.inr (slot_ne (Or.inr (hw _ (List.mem_of_getElem? (i := 55) rfl))) (Or.inl (hw _ (List.mem_of_getElem? (i := 26) rfl))) (by decide) (t := (.array .int)) (t' := (.array .int)) (by decide) (by decide)))
  replace G_columnRows := Fld.other W36 G_columnRows (Or.inr (slot_ne (Or.inl (hw _ (List.mem_of_getElem? (i := 62) rfl))) (Or.inl (hw _ (List.mem_of_getElem? (i := 26) rfl))) (by decide) (t := (.array (.array .int))) (t' := (.array .int)) (by decide) (by decide)))
  replace G_columnCoefficients := Fld.other W36 G_columnCoefficients (Or.inr (slot_ne (Or.inl (hw _ (List.mem_of_getElem? (i := 64) rfl))) (Or.inl (hw _ (List.mem_of_getElem? (i := 26) rfl))) (by decide) (t := (.array (.array .double))) (t' := (.array .int)) (by decide) (by decide)))
  replace G_columnLengths := Fld.other W36 G_columnLengths (Or.inr (slot_ne (Or.inl (hw _ (List.mem_of_getElem? (i := 66) rfl))) (Or.inl (hw _ (List.mem_of_getElem? (i := 26) rfl))) (by decide) (t := (.array .int)) (t' := (.array .int)) (by decide) (by decide)))
  replace G_reduced := Fld.other W36 G_reduced (Or.inr (slot_ne (Or.inr (hw _ (List.mem_of_getElem? (i := 68) rfl))) (Or.inl (hw _ (List.mem_of_getElem? (i := 26) rfl))) (by decide) (t := (.array .double)) (t' := (.array .int)) (by decide) (by decide)))
  replace G_pivotRow := Fld.other W36 G_pivotRow (Or.inr (slot_ne (Or.inr (hw _ (List.mem_of_getElem? (i := 70) rfl))) (Or.inl (hw _ (List.mem_of_getElem? (i := 26) rfl))) (by decide) (t := (.array .double)) (t' := (.array .int)) (by decide) (by decide)))
  replace A_ca := A_ca.other W36 n_ca
  replace E_ca := Exa.wr W36 E_ca
  replace A_la := A_la.other W36 n_la
  replace E_la := Exa.wr W36 E_la
  replace A_ua := A_ua.other W36 n_ua
  replace E_ua := Exa.wr W36 E_ua
  replace A_b31 := A_b31.other W36 (Ne.symm ne_a_b31)
  replace G_tight := Fld.same W36 G_tight
  refine aloadN P d1_54 rfl rfl (n := 55) rfl ?_
  refine bipush P d1_55 (x := (16 : Int32)) rfl (n := 57) rfl ?_
  refine newP P d1_57 (hw _ (List.mem_of_getElem? (i := 22) rfl)) (k := 16) (cap := 16) ⟨rfl, by decide⟩ (by decide) (by decide) (n := 59) rfl ?_
  intro T h38 b37 P X39 g40 lo_b37 A_b37
  have ne_a_b37 : a ≠ b37 := Nat.ne_of_lt (g40 ▸ E_a.lt)
  have ne_ca_b37 : ca ≠ b37 := Nat.ne_of_lt (g40 ▸ A_ca.lt)
  have ne_la_b37 : la ≠ b37 := Nat.ne_of_lt (g40 ▸ A_la.lt)
  have ne_ua_b37 : ua ≠ b37 := Nat.ne_of_lt (g40 ▸ A_ua.lt)
  replace E_a := Exa.ext X39 E_a
  replace G_basic := Fld.ext X39 G_basic
  replace G_inverse := Fld.ext X39 G_inverse
  replace G_price := Fld.ext X39 G_price
  replace G_pivotSlack := Fld.ext X39 G_pivotSlack
  replace G_columns := Fld.ext X39 G_columns
  replace G_cost := Fld.ext X39 G_cost
  replace G_lower := Fld.ext X39 G_lower
  replace G_upper := Fld.ext X39 G_upper
  replace G_value := Fld.ext X39 G_value
  replace G_columnPlace := Fld.ext X39 G_columnPlace
  replace G_columnRows := Fld.ext X39 G_columnRows
  replace G_columnCoefficients := Fld.ext X39 G_columnCoefficients
  replace G_columnLengths := Fld.ext X39 G_columnLengths
  replace G_reduced := Fld.ext X39 G_reduced
  replace G_pivotRow := Fld.ext X39 G_pivotRow
  replace A_ca := A_ca.ext X39
  replace E_ca := Exa.ext X39 E_ca
  replace A_la := A_la.ext X39
  replace E_la := Exa.ext X39 E_la
  replace A_ua := A_ua.ext X39
  replace E_ua := Exa.ext X39 E_ua
  replace A_b37 : ARI Z h38 b37 .int 16 (fun _ => 0) := A_b37
  refine putF P d1_59 (hw _ (List.mem_of_getElem? (i := 27) rfl)) G_basic E_a (Or.inl (hw _ (List.mem_of_getElem? (i := 28) rfl))) (hw _ (List.mem_of_getElem? (i := 2) rfl)) (ty := (.array .int)) (by decide) rfl rfl lo_a (n := 62) rfl ?_
  intro T h41 P W42
  replace E_a := Exa.wr W42 E_a
  replace G_inverse := Fld.other W42 G_inverse (Or.inr (slot_ne (Or.inl (hw _ (List.mem_of_getElem? (i := 31) rfl))) (Or.inl (hw _ (List.mem_of_getElem? (i := 28) rfl))) (by decide) (t := (.array (.array .double))) (t' := (.array .int)) (by decide) (by decide)))
  replace G_price := Fld.other W42 G_price (Or.inr (slot_ne (Or.inl (hw _ (List.mem_of_getElem? (i := 33) rfl))) (Or.inl (hw _ (List.mem_of_getElem? (i := 28) rfl))) (by decide) (t := (.array .double)) (t' := (.array .int)) (by decide) (by decide)))
  replace G_pivotSlack := Fld.other W42 G_pivotSlack (Or.inr (slot_ne (Or.inl (hw _ (List.mem_of_getElem? (i := 35) rfl))) (Or.inl (hw _ (List.mem_of_getElem? (i := 28) rfl))) (by decide) (t := (.array .double)) (t' := (.array .int)) (by decide) (by decide)))
  replace G_columns := Fld.other W42 G_columns (Or.inr (slot_ne (Or.inr (hw _ (List.mem_of_getElem? (i := 37) rfl))) (Or.inl (hw _ (List.mem_of_getElem? (i := 28) rfl))) (by decide) (t := .int) (t' := (.array .int)) (by decide) (by decide)))
  replace G_cost := Fld.other W42 G_cost (Or.inr (slot_ne (Or.inr (hw _ (List.mem_of_getElem? (i := 47) rfl))) (Or.inl (hw _ (List.mem_of_getElem? (i := 28) rfl))) (by decide) (t := (.array .double)) (t' := (.array .int)) (by decide) (by decide)))
  replace G_lower := Fld.other W42 G_lower (Or.inr (slot_ne (Or.inr (hw _ (List.mem_of_getElem? (i := 49) rfl))) (Or.inl (hw _ (List.mem_of_getElem? (i := 28) rfl))) (by decide) (t := (.array .double)) (t' := (.array .int)) (by decide) (by decide)))
  replace G_upper := Fld.other W42 G_upper (Or.inr (slot_ne (Or.inr (hw _ (List.mem_of_getElem? (i := 51) rfl))) (Or.inl (hw _ (List.mem_of_getElem? (i := 28) rfl))) (by decide) (t := (.array .double)) (t' := (.array .int)) (by decide) (by decide)))
  replace G_value := Fld.other W42 G_value (Or.inr (slot_ne (Or.inr (hw _ (List.mem_of_getElem? (i := 53) rfl))) (Or.inl (hw _ (List.mem_of_getElem? (i := 28) rfl))) (by decide) (t := (.array .double)) (t' := (.array .int)) (by decide) (by decide)))
  replace G_columnPlace := Fld.other W42 G_columnPlace (Or.inr (slot_ne (Or.inr (hw _ (List.mem_of_getElem? (i := 55) rfl))) (Or.inl (hw _ (List.mem_of_getElem? (i := 28) rfl))) (by decide) (t := (.array .int)) (t' := (.array .int)) (by decide) (by decide)))
  replace G_columnRows := Fld.other W42 G_columnRows (Or.inr (slot_ne (Or.inl (hw _ (List.mem_of_getElem? (i := 62) rfl))) (Or.inl (hw _ (List.mem_of_getElem? (i := 28) rfl))) (by decide) (t := (.array (.array .int))) (t' := (.array .int)) (by decide) (by decide)))
  replace G_columnCoefficients := Fld.other W42 G_columnCoefficients (Or.inr (slot_ne (Or.inl (hw _ (List.mem_of_getElem? (i := 64) rfl))) (Or.inl (hw _ (List.mem_of_getElem? (i := 28) rfl))) (by decide) (t := (.array (.array .double))) (t' := (.array .int)) (by decide) (by decide)))
  replace G_columnLengths := Fld.other W42 G_columnLengths (Or.inr (slot_ne (Or.inl (hw _ (List.mem_of_getElem? (i := 66) rfl))) (Or.inl (hw _ (List.mem_of_getElem? (i := 28) rfl))) (by decide) (t := (.array .int)) (t' := (.array .int)) (by decide) (by decide)))
  replace G_reduced := Fld.other W42 G_reduced (Or.inr (slot_ne (Or.inr (hw _ (List.mem_of_getElem? (i := 68) rfl))) (Or.inl (hw _ (List.mem_of_getElem? (i := 28) rfl))) (by decide) (t := (.array .double)) (t' := (.array .int)) (by decide) (by decide)))
  replace G_pivotRow := Fld.other W42 G_pivotRow (Or.inr (slot_ne (Or.inr (hw _ (List.mem_of_getElem? (i := 70) rfl))) (Or.inl (hw _ (List.mem_of_getElem? (i := 28) rfl))) (by decide) (t := (.array .double)) (t' := (.array .int)) (by decide) (by decide)))
  replace A_ca := A_ca.other W42 n_ca
  replace E_ca := Exa.wr W42 E_ca
  replace A_la := A_la.other W42 n_la
  replace E_la := Exa.wr W42 E_la
  replace A_ua := A_ua.other W42 n_ua
  replace E_ua := Exa.wr W42 E_ua
  replace A_b37 := A_b37.other W42 (Ne.symm ne_a_b37)
  replace G_basic := Fld.same W42 G_basic
  refine aloadN P d1_62 rfl rfl (n := 63) rfl ?_
  refine bipush P d1_63 (x := (16 : Int32)) rfl (n := 65) rfl ?_
  refine bipush P d1_65 (x := (16 : Int32)) rfl (n := 67) rfl ?_
  refine gridX P d1_67 (ty := .double) (N := 16) (cap := 16) (C := "[D") (ad := "[[D") (by decide) (by decide) (hw _ (List.mem_of_getElem? (i := 29) rfl)) (hw _ (List.mem_of_getElem? (i := 15) rfl)) (hw _ (List.mem_of_getElem? (i := 0) rfl)) rfl rfl (by decide) (by decide) (by decide) (n := 71) rfl ?_
  intro T h44 b43 P X45 g46 lo_b43
  have ne_a_b43 : a ≠ b43 := Nat.ne_of_lt (g46 ▸ E_a.lt)
  have ne_ca_b43 : ca ≠ b43 := Nat.ne_of_lt (g46 ▸ A_ca.lt)
  have ne_la_b43 : la ≠ b43 := Nat.ne_of_lt (g46 ▸ A_la.lt)
  have ne_ua_b43 : ua ≠ b43 := Nat.ne_of_lt (g46 ▸ A_ua.lt)
  replace E_a := Exa.ext X45 E_a
  replace G_inverse := Fld.ext X45 G_inverse
  replace G_price := Fld.ext X45 G_price
  replace G_pivotSlack := Fld.ext X45 G_pivotSlack
  replace G_columns := Fld.ext X45 G_columns
  replace G_cost := Fld.ext X45 G_cost
  replace G_lower := Fld.ext X45 G_lower
  replace G_upper := Fld.ext X45 G_upper
  replace G_value := Fld.ext X45 G_value
  replace G_columnPlace := Fld.ext X45 G_columnPlace
  replace G_columnRows := Fld.ext X45 G_columnRows
  replace G_columnCoefficients := Fld.ext X45 G_columnCoefficients
  replace G_columnLengths := Fld.ext X45 G_columnLengths
  replace G_reduced := Fld.ext X45 G_reduced
  replace G_pivotRow := Fld.ext X45 G_pivotRow
  replace A_ca := A_ca.ext X45
  replace E_ca := Exa.ext X45 E_ca
  replace A_la := A_la.ext X45
  replace E_la := Exa.ext X45 E_la
  replace A_ua := A_ua.ext X45
  replace E_ua := Exa.ext X45 E_ua
  refine putF P d1_71 (hw _ (List.mem_of_getElem? (i := 30) rfl)) G_inverse E_a (Or.inl (hw _ (List.mem_of_getElem? (i := 31) rfl))) (hw _ (List.mem_of_getElem? (i := 2) rfl)) (ty := (.array (.array .double))) (by decide) rfl rfl lo_a (n := 74) rfl ?_
  intro T h47 P W48
  replace E_a := Exa.wr W48 E_a
  replace G_price := Fld.other W48 G_price (Or.inr (slot_ne (Or.inl (hw _ (List.mem_of_getElem? (i := 33) rfl))) (Or.inl (hw _ (List.mem_of_getElem? (i := 31) rfl))) (by decide) (t := (.array .double)) (t' := (.array (.array .double))) (by decide) (by decide)))
  replace G_pivotSlack := Fld.other W48 G_pivotSlack (Or.inr (slot_ne (Or.inl (hw _ (List.mem_of_getElem? (i := 35) rfl))) (Or.inl (hw _ (List.mem_of_getElem? (i := 31) rfl))) (by decide) (t := (.array .double)) (t' := (.array (.array .double))) (by decide) (by decide)))
  replace G_columns := Fld.other W48 G_columns (Or.inr (slot_ne (Or.inr (hw _ (List.mem_of_getElem? (i := 37) rfl))) (Or.inl (hw _ (List.mem_of_getElem? (i := 31) rfl))) (by decide) (t := .int) (t' := (.array (.array .double))) (by decide) (by decide)))
  replace G_cost := Fld.other W48 G_cost (Or.inr (slot_ne (Or.inr (hw _ (List.mem_of_getElem? (i := 47) rfl))) (Or.inl (hw _ (List.mem_of_getElem? (i := 31) rfl))) (by decide) (t := (.array .double)) (t' := (.array (.array .double))) (by decide) (by decide)))
  replace G_lower := Fld.other W48 G_lower (Or.inr (slot_ne (Or.inr (hw _ (List.mem_of_getElem? (i := 49) rfl))) (Or.inl (hw _ (List.mem_of_getElem? (i := 31) rfl))) (by decide) (t := (.array .double)) (t' := (.array (.array .double))) (by decide) (by decide)))
  replace G_upper := Fld.other W48 G_upper (Or.inr (slot_ne (Or.inr (hw _ (List.mem_of_getElem? (i := 51) rfl))) (Or.inl (hw _ (List.mem_of_getElem? (i := 31) rfl))) (by decide) (t := (.array .double)) (t' := (.array (.array .double))) (by decide) (by decide)))
  replace G_value := Fld.other W48 G_value (Or.inr (slot_ne (Or.inr (hw _ (List.mem_of_getElem? (i := 53) rfl))) (Or.inl (hw _ (List.mem_of_getElem? (i := 31) rfl))) (by decide) (t := (.array .double)) (t' := (.array (.array .double))) (by decide) (by decide)))
  replace G_columnPlace := Fld.other W48 G_columnPlace (Or.inr (slot_ne (Or.inr (hw _ (List.mem_of_getElem? (i := 55) rfl))) (Or.inl (hw _ (List.mem_of_getElem? (i := 31) rfl))) (by decide) (t := (.array .int)) (t' := (.array (.array .double))) (by decide) (by decide)))
  replace G_columnRows := Fld.other W48 G_columnRows (Or.inr (slot_ne (Or.inl (hw _ (List.mem_of_getElem? (i := 62) rfl))) (Or.inl (hw _ (List.mem_of_getElem? (i := 31) rfl))) (by decide) (t := (.array (.array .int))) (t' := (.array (.array .double))) (by decide) (by decide)))
  replace G_columnCoefficients := Fld.other W48 G_columnCoefficients (Or.inr (slot_ne (Or.inl (hw _ (List.mem_of_getElem? (i := 64) rfl))) (Or.inl (hw _ (List.mem_of_getElem? (i := 31) rfl))) (by decide) (t := (.array (.array .double))) (t' := (.array (.array .double))) (by decide) (by decide)))
  replace G_columnLengths := Fld.other W48 G_columnLengths (Or.inr (slot_ne (Or.inl (hw _ (List.mem_of_getElem? (i := 66) rfl))) (Or.inl (hw _ (List.mem_of_getElem? (i := 31) rfl))) (by decide) (t := (.array .int)) (t' := (.array (.array .double))) (by decide) (by decide)))
  replace G_reduced := Fld.other W48 G_reduced (Or.inr (slot_ne (Or.inr (hw _ (List.mem_of_getElem? (i := 68) rfl))) (Or.inl (hw _ (List.mem_of_getElem? (i := 31) rfl))) (by decide) (t := (.array .double)) (t' := (.array (.array .double))) (by decide) (by decide)))
  replace G_pivotRow := Fld.other W48 G_pivotRow (Or.inr (slot_ne (Or.inr (hw _ (List.mem_of_getElem? (i := 70) rfl))) (Or.inl (hw _ (List.mem_of_getElem? (i := 31) rfl))) (by decide) (t := (.array .double)) (t' := (.array (.array .double))) (by decide) (by decide)))
  replace A_ca := A_ca.other W48 n_ca
  replace E_ca := Exa.wr W48 E_ca
  replace A_la := A_la.other W48 n_la
  replace E_la := Exa.wr W48 E_la
  replace A_ua := A_ua.other W48 n_ua
  replace E_ua := Exa.wr W48 E_ua
  replace G_inverse := Fld.same W48 G_inverse
  refine aloadN P d1_74 rfl rfl (n := 75) rfl ?_
  refine bipush P d1_75 (x := (16 : Int32)) rfl (n := 77) rfl ?_
  refine newPE P d1_77 (ad := "[D") (hw _ (List.mem_of_getElem? (i := 0) rfl)) (k := 16) (cap := 16) ⟨rfl, by decide⟩ (by decide) (by decide) (by decide) (n := 79) rfl ?_
  intro T h50 b49 P X51 g52 lo_b49 A_b49 E_b49
  have ne_a_b49 : a ≠ b49 := Nat.ne_of_lt (g52 ▸ E_a.lt)
  have ne_ca_b49 : ca ≠ b49 := Nat.ne_of_lt (g52 ▸ A_ca.lt)
  have ne_la_b49 : la ≠ b49 := Nat.ne_of_lt (g52 ▸ A_la.lt)
  have ne_ua_b49 : ua ≠ b49 := Nat.ne_of_lt (g52 ▸ A_ua.lt)
  replace E_a := Exa.ext X51 E_a
  replace G_price := Fld.ext X51 G_price
  replace G_pivotSlack := Fld.ext X51 G_pivotSlack
  replace G_columns := Fld.ext X51 G_columns
  replace G_cost := Fld.ext X51 G_cost
  replace G_lower := Fld.ext X51 G_lower
  replace G_upper := Fld.ext X51 G_upper
  replace G_value := Fld.ext X51 G_value
  replace G_columnPlace := Fld.ext X51 G_columnPlace
  replace G_columnRows := Fld.ext X51 G_columnRows
  replace G_columnCoefficients := Fld.ext X51 G_columnCoefficients
  replace G_columnLengths := Fld.ext X51 G_columnLengths
  replace G_reduced := Fld.ext X51 G_reduced
  replace G_pivotRow := Fld.ext X51 G_pivotRow
  replace A_ca := A_ca.ext X51
  replace E_ca := Exa.ext X51 E_ca
  replace A_la := A_la.ext X51
  replace E_la := Exa.ext X51 E_la
  replace A_ua := A_ua.ext X51
  replace E_ua := Exa.ext X51 E_ua
  replace A_b49 : ARD Z h50 b49 16 (fun _ => 0) := A_b49
  refine putF P d1_79 (hw _ (List.mem_of_getElem? (i := 32) rfl)) G_price E_a (Or.inl (hw _ (List.mem_of_getElem? (i := 33) rfl))) (hw _ (List.mem_of_getElem? (i := 2) rfl)) (ty := (.array .double)) (by decide) rfl rfl lo_a (n := 82) rfl ?_
  intro T h53 P W54
  replace E_a := Exa.wr W54 E_a
  replace G_pivotSlack := Fld.other W54 G_pivotSlack (Or.inr (slot_ne (Or.inl (hw _ (List.mem_of_getElem? (i := 35) rfl))) (Or.inl (hw _ (List.mem_of_getElem? (i := 33) rfl))) (by decide) (t := (.array .double)) (t' := (.array .double)) (by decide) (by decide)))
  replace G_columns := Fld.other W54 G_columns (Or.inr (slot_ne (Or.inr (hw _ (List.mem_of_getElem? (i := 37) rfl))) (Or.inl (hw _ (List.mem_of_getElem? (i := 33) rfl))) (by decide) (t := .int) (t' := (.array .double)) (by decide) (by decide)))
  replace G_cost := Fld.other W54 G_cost (Or.inr (slot_ne (Or.inr (hw _ (List.mem_of_getElem? (i := 47) rfl))) (Or.inl (hw _ (List.mem_of_getElem? (i := 33) rfl))) (by decide) (t := (.array .double)) (t' := (.array .double)) (by decide) (by decide)))
  replace G_lower := Fld.other W54 G_lower (Or.inr (slot_ne (Or.inr (hw _ (List.mem_of_getElem? (i := 49) rfl))) (Or.inl (hw _ (List.mem_of_getElem? (i := 33) rfl))) (by decide) (t := (.array .double)) (t' := (.array .double)) (by decide) (by decide)))
  replace G_upper := Fld.other W54 G_upper (Or.inr (slot_ne (Or.inr (hw _ (List.mem_of_getElem? (i := 51) rfl))) (Or.inl (hw _ (List.mem_of_getElem? (i := 33) rfl))) (by decide) (t := (.array .double)) (t' := (.array .double)) (by decide) (by decide)))
  replace G_value := Fld.other W54 G_value (Or.inr (slot_ne (Or.inr (hw _ (List.mem_of_getElem? (i := 53) rfl))) (Or.inl (hw _ (List.mem_of_getElem? (i := 33) rfl))) (by decide) (t := (.array .double)) (t' := (.array .double)) (by decide) (by decide)))
  replace G_columnPlace := Fld.other W54 G_columnPlace (Or.inr (slot_ne (Or.inr (hw _ (List.mem_of_getElem? (i := 55) rfl))) (Or.inl (hw _ (List.mem_of_getElem? (i := 33) rfl))) (by decide) (t := (.array .int)) (t' := (.array .double)) (by decide) (by decide)))
  replace G_columnRows := Fld.other W54 G_columnRows (Or.inr (slot_ne (Or.inl (hw _ (List.mem_of_getElem? (i := 62) rfl))) (Or.inl (hw _ (List.mem_of_getElem? (i := 33) rfl))) (by decide) (t := (.array (.array .int))) (t' := (.array .double)) (by decide) (by decide)))
  replace G_columnCoefficients := Fld.other W54 G_columnCoefficients (Or.inr (slot_ne (Or.inl (hw _ (List.mem_of_getElem? (i := 64) rfl))) (Or.inl (hw _ (List.mem_of_getElem? (i := 33) rfl))) (by decide) (t := (.array (.array .double))) (t' := (.array .double)) (by decide) (by decide)))
  replace G_columnLengths := Fld.other W54 G_columnLengths (Or.inr (slot_ne (Or.inl (hw _ (List.mem_of_getElem? (i := 66) rfl))) (Or.inl (hw _ (List.mem_of_getElem? (i := 33) rfl))) (by decide) (t := (.array .int)) (t' := (.array .double)) (by decide) (by decide)))
  replace G_reduced := Fld.other W54 G_reduced (Or.inr (slot_ne (Or.inr (hw _ (List.mem_of_getElem? (i := 68) rfl))) (Or.inl (hw _ (List.mem_of_getElem? (i := 33) rfl))) (by decide) (t := (.array .double)) (t' := (.array .double)) (by decide) (by decide)))
  replace G_pivotRow := Fld.other W54 G_pivotRow (Or.inr (slot_ne (Or.inr (hw _ (List.mem_of_getElem? (i := 70) rfl))) (Or.inl (hw _ (List.mem_of_getElem? (i := 33) rfl))) (by decide) (t := (.array .double)) (t' := (.array .double)) (by decide) (by decide)))
  replace A_ca := A_ca.other W54 n_ca
  replace E_ca := Exa.wr W54 E_ca
  replace A_la := A_la.other W54 n_la
  replace E_la := Exa.wr W54 E_la
  replace A_ua := A_ua.other W54 n_ua
  replace E_ua := Exa.wr W54 E_ua
  replace A_b49 := A_b49.other W54 (Ne.symm ne_a_b49)
  replace E_b49 := Exa.wr W54 E_b49
  replace G_price := Fld.same W54 G_price
  refine aloadN P d1_82 rfl rfl (n := 83) rfl ?_
  refine bipush P d1_83 (x := (16 : Int32)) rfl (n := 85) rfl ?_
  refine newPE P d1_85 (ad := "[D") (hw _ (List.mem_of_getElem? (i := 0) rfl)) (k := 16) (cap := 16) ⟨rfl, by decide⟩ (by decide) (by decide) (by decide) (n := 87) rfl ?_
  intro T h56 b55 P X57 g58 lo_b55 A_b55 E_b55
  have ne_a_b55 : a ≠ b55 := Nat.ne_of_lt (g58 ▸ E_a.lt)
  have ne_ca_b55 : ca ≠ b55 := Nat.ne_of_lt (g58 ▸ A_ca.lt)
  have ne_la_b55 : la ≠ b55 := Nat.ne_of_lt (g58 ▸ A_la.lt)
  have ne_ua_b55 : ua ≠ b55 := Nat.ne_of_lt (g58 ▸ A_ua.lt)
  replace E_a := Exa.ext X57 E_a
  replace G_pivotSlack := Fld.ext X57 G_pivotSlack
  replace G_columns := Fld.ext X57 G_columns
  replace G_cost := Fld.ext X57 G_cost
  replace G_lower := Fld.ext X57 G_lower
  replace G_upper := Fld.ext X57 G_upper
  replace G_value := Fld.ext X57 G_value
  replace G_columnPlace := Fld.ext X57 G_columnPlace
  replace G_columnRows := Fld.ext X57 G_columnRows
  replace G_columnCoefficients := Fld.ext X57 G_columnCoefficients
  replace G_columnLengths := Fld.ext X57 G_columnLengths
  replace G_reduced := Fld.ext X57 G_reduced
  replace G_pivotRow := Fld.ext X57 G_pivotRow
  replace A_ca := A_ca.ext X57
  replace E_ca := Exa.ext X57 E_ca
  replace A_la := A_la.ext X57
  replace E_la := Exa.ext X57 E_la
  replace A_ua := A_ua.ext X57
  replace E_ua := Exa.ext X57 E_ua
  replace A_b55 : ARD Z h56 b55 16 (fun _ => 0) := A_b55
  refine putF P d1_87 (hw _ (List.mem_of_getElem? (i := 34) rfl)) G_pivotSlack E_a (Or.inl (hw _ (List.mem_of_getElem? (i := 35) rfl))) (hw _ (List.mem_of_getElem? (i := 2) rfl)) (ty := (.array .double)) (by decide) rfl rfl lo_a (n := 90) rfl ?_
  intro T h59 P W60
  replace E_a := Exa.wr W60 E_a
  replace G_columns := Fld.other W60 G_columns (Or.inr (slot_ne (Or.inr (hw _ (List.mem_of_getElem? (i := 37) rfl))) (Or.inl (hw _ (List.mem_of_getElem? (i := 35) rfl))) (by decide) (t := .int) (t' := (.array .double)) (by decide) (by decide)))
  replace G_cost := Fld.other W60 G_cost (Or.inr (slot_ne (Or.inr (hw _ (List.mem_of_getElem? (i := 47) rfl))) (Or.inl (hw _ (List.mem_of_getElem? (i := 35) rfl))) (by decide) (t := (.array .double)) (t' := (.array .double)) (by decide) (by decide)))
  replace G_lower := Fld.other W60 G_lower (Or.inr (slot_ne (Or.inr (hw _ (List.mem_of_getElem? (i := 49) rfl))) (Or.inl (hw _ (List.mem_of_getElem? (i := 35) rfl))) (by decide) (t := (.array .double)) (t' := (.array .double)) (by decide) (by decide)))
  replace G_upper := Fld.other W60 G_upper (Or.inr (slot_ne (Or.inr (hw _ (List.mem_of_getElem? (i := 51) rfl))) (Or.inl (hw _ (List.mem_of_getElem? (i := 35) rfl))) (by decide) (t := (.array .double)) (t' := (.array .double)) (by decide) (by decide)))
  replace G_value := Fld.other W60 G_value (Or.inr (slot_ne (Or.inr (hw _ (List.mem_of_getElem? (i := 53) rfl))) (Or.inl (hw _ (List.mem_of_getElem? (i := 35) rfl))) (by decide) (t := (.array .double)) (t' := (.array .double)) (by decide) (by decide)))
  replace G_columnPlace := Fld.other W60 G_columnPlace (Or.inr (slot_ne (Or.inr (hw _ (List.mem_of_getElem? (i := 55) rfl))) (Or.inl (hw _ (List.mem_of_getElem? (i := 35) rfl))) (by decide) (t := (.array .int)) (t' := (.array .double)) (by decide) (by decide)))
  replace G_columnRows := Fld.other W60 G_columnRows (Or.inr (slot_ne (Or.inl (hw _ (List.mem_of_getElem? (i := 62) rfl))) (Or.inl (hw _ (List.mem_of_getElem? (i := 35) rfl))) (by decide) (t := (.array (.array .int))) (t' := (.array .double)) (by decide) (by decide)))
  replace G_columnCoefficients := Fld.other W60 G_columnCoefficients (Or.inr (slot_ne (Or.inl (hw _ (List.mem_of_getElem? (i := 64) rfl))) (Or.inl (hw _ (List.mem_of_getElem? (i := 35) rfl))) (by decide) (t := (.array (.array .double))) (t' := (.array .double)) (by decide) (by decide)))
  replace G_columnLengths := Fld.other W60 G_columnLengths (Or.inr (slot_ne (Or.inl (hw _ (List.mem_of_getElem? (i := 66) rfl))) (Or.inl (hw _ (List.mem_of_getElem? (i := 35) rfl))) (by decide) (t := (.array .int)) (t' := (.array .double)) (by decide) (by decide)))
  replace G_reduced := Fld.other W60 G_reduced (Or.inr (slot_ne (Or.inr (hw _ (List.mem_of_getElem? (i := 68) rfl))) (Or.inl (hw _ (List.mem_of_getElem? (i := 35) rfl))) (by decide) (t := (.array .double)) (t' := (.array .double)) (by decide) (by decide)))
  replace G_pivotRow := Fld.other W60 G_pivotRow (Or.inr (slot_ne (Or.inr (hw _ (List.mem_of_getElem? (i := 70) rfl))) (Or.inl (hw _ (List.mem_of_getElem? (i := 35) rfl))) (by decide) (t := (.array .double)) (t' := (.array .double)) (by decide) (by decide)))
  replace A_ca := A_ca.other W60 n_ca
  replace E_ca := Exa.wr W60 E_ca
  replace A_la := A_la.other W60 n_la
  replace E_la := Exa.wr W60 E_la
  replace A_ua := A_ua.other W60 n_ua
  replace E_ua := Exa.wr W60 E_ua
  replace A_b55 := A_b55.other W60 (Ne.symm ne_a_b55)
  replace E_b55 := Exa.wr W60 E_b55
  replace G_pivotSlack := Fld.same W60 G_pivotSlack
  refine aloadN P d1_90 rfl rfl (n := 91) rfl ?_
  refine aloadN P d1_91 rfl rfl (n := 92) rfl ?_
  refine alen P d1_92 A_ca (x := (3 : Int32)) rfl (n := 93) rfl ?_
  refine putF P d1_93 (hw _ (List.mem_of_getElem? (i := 36) rfl)) G_columns E_a (Or.inr ⟨(hw _ (List.mem_of_getElem? (i := 37) rfl)), rfl, rfl⟩) (hw _ (List.mem_of_getElem? (i := 2) rfl)) (ty := .int) (by decide) rfl rfl lo_a (n := 96) rfl ?_
  intro T h61 P W62
  replace E_a := Exa.wr W62 E_a
  replace G_cost := Fld.other W62 G_cost (Or.inr (slot_ne (Or.inr (hw _ (List.mem_of_getElem? (i := 47) rfl))) (Or.inr (hw _ (List.mem_of_getElem? (i := 37) rfl))) (by decide) (t := (.array .double)) (t' := .int) (by decide) (by decide)))
  replace G_lower := Fld.other W62 G_lower (Or.inr (slot_ne (Or.inr (hw _ (List.mem_of_getElem? (i := 49) rfl))) (Or.inr (hw _ (List.mem_of_getElem? (i := 37) rfl))) (by decide) (t := (.array .double)) (t' := .int) (by decide) (by decide)))
  replace G_upper := Fld.other W62 G_upper (Or.inr (slot_ne (Or.inr (hw _ (List.mem_of_getElem? (i := 51) rfl))) (Or.inr (hw _ (List.mem_of_getElem? (i := 37) rfl))) (by decide) (t := (.array .double)) (t' := .int) (by decide) (by decide)))
  replace G_value := Fld.other W62 G_value (Or.inr (slot_ne (Or.inr (hw _ (List.mem_of_getElem? (i := 53) rfl))) (Or.inr (hw _ (List.mem_of_getElem? (i := 37) rfl))) (by decide) (t := (.array .double)) (t' := .int) (by decide) (by decide)))
  replace G_columnPlace := Fld.other W62 G_columnPlace (Or.inr (slot_ne (Or.inr (hw _ (List.mem_of_getElem? (i := 55) rfl))) (Or.inr (hw _ (List.mem_of_getElem? (i := 37) rfl))) (by decide) (t := (.array .int)) (t' := .int) (by decide) (by decide)))
  replace G_columnRows := Fld.other W62 G_columnRows (Or.inr (slot_ne (Or.inl (hw _ (List.mem_of_getElem? (i := 62) rfl))) (Or.inr (hw _ (List.mem_of_getElem? (i := 37) rfl))) (by decide) (t := (.array (.array .int))) (t' := .int) (by decide) (by decide)))
  replace G_columnCoefficients := Fld.other W62 G_columnCoefficients (Or.inr (slot_ne (Or.inl (hw _ (List.mem_of_getElem? (i := 64) rfl))) (Or.inr (hw _ (List.mem_of_getElem? (i := 37) rfl))) (by decide) (t := (.array (.array .double))) (t' := .int) (by decide) (by decide)))
  replace G_columnLengths := Fld.other W62 G_columnLengths (Or.inr (slot_ne (Or.inl (hw _ (List.mem_of_getElem? (i := 66) rfl))) (Or.inr (hw _ (List.mem_of_getElem? (i := 37) rfl))) (by decide) (t := (.array .int)) (t' := .int) (by decide) (by decide)))
  replace G_reduced := Fld.other W62 G_reduced (Or.inr (slot_ne (Or.inr (hw _ (List.mem_of_getElem? (i := 68) rfl))) (Or.inr (hw _ (List.mem_of_getElem? (i := 37) rfl))) (by decide) (t := (.array .double)) (t' := .int) (by decide) (by decide)))
  replace G_pivotRow := Fld.other W62 G_pivotRow (Or.inr (slot_ne (Or.inr (hw _ (List.mem_of_getElem? (i := 70) rfl))) (Or.inr (hw _ (List.mem_of_getElem? (i := 37) rfl))) (by decide) (t := (.array .double)) (t' := .int) (by decide) (by decide)))
  replace A_ca := A_ca.other W62 n_ca
  replace E_ca := Exa.wr W62 E_ca
  replace A_la := A_la.other W62 n_la
  replace E_la := Exa.wr W62 E_la
  replace A_ua := A_ua.other W62 n_ua
  replace E_ua := Exa.wr W62 E_ua
  replace G_columns := Fld.same W62 G_columns
  refine aloadN P d1_96 rfl rfl (n := 97) rfl ?_
  refine aloadN P d1_97 rfl rfl (n := 98) rfl ?_
  refine cloneD P d1_98 (ad := "[D") (cap := 3) (hw _ (List.mem_of_getElem? (i := 38) rfl)) (hw _ (List.mem_of_getElem? (i := 39) rfl)) (hw _ (List.mem_of_getElem? (i := 43) rfl)) (hw _ (List.mem_of_getElem? (i := 41) rfl)) (hw _ (List.mem_of_getElem? (i := 42) rfl)) (hw _ (List.mem_of_getElem? (i := 44) rfl)) A_ca E_ca rfl (by decide) (Nat.le_of_ble_eq_true rfl) (by decide) (by decide) (n := 101) rfl ?_
  intro T h64 b63 P X65 g66 lo_b63 A_b63 E_b63
  have ne_a_b63 : a ≠ b63 := Nat.ne_of_lt (g66 ▸ E_a.lt)
  have ne_ca_b63 : ca ≠ b63 := Nat.ne_of_lt (g66 ▸ A_ca.lt)
  have ne_la_b63 : la ≠ b63 := Nat.ne_of_lt (g66 ▸ A_la.lt)
  have ne_ua_b63 : ua ≠ b63 := Nat.ne_of_lt (g66 ▸ A_ua.lt)
  replace E_a := Exa.ext X65 E_a
  replace G_columns := Fld.ext X65 G_columns
  replace G_cost := Fld.ext X65 G_cost
  replace G_lower := Fld.ext X65 G_lower
  replace G_upper := Fld.ext X65 G_upper
  replace G_value := Fld.ext X65 G_value
  replace G_columnPlace := Fld.ext X65 G_columnPlace
  replace G_columnRows := Fld.ext X65 G_columnRows
  replace G_columnCoefficients := Fld.ext X65 G_columnCoefficients
  replace G_columnLengths := Fld.ext X65 G_columnLengths
  replace G_reduced := Fld.ext X65 G_reduced
  replace G_pivotRow := Fld.ext X65 G_pivotRow
  replace A_ca := A_ca.ext X65
  replace E_ca := Exa.ext X65 E_ca
  replace A_la := A_la.ext X65
  replace E_la := Exa.ext X65 E_la
  replace A_ua := A_ua.ext X65
  replace E_ua := Exa.ext X65 E_ua
  refine castX P d1_101 (hw _ (List.mem_of_getElem? (i := 14) rfl)) (Ins.of_exa E_b63 (hw _ (List.mem_of_getElem? (i := 45) rfl))) (n := 104) rfl ?_
  intro T P
  refine putF P d1_104 (hw _ (List.mem_of_getElem? (i := 46) rfl)) G_cost E_a (Or.inr ⟨(hw _ (List.mem_of_getElem? (i := 47) rfl)), rfl, rfl⟩) (hw _ (List.mem_of_getElem? (i := 2) rfl)) (ty := (.array .double)) (by decide) rfl rfl lo_a (n := 107) rfl ?_
  intro T h67 P W68
  replace E_a := Exa.wr W68 E_a
  replace G_columns := Fld.other W68 G_columns (Or.inr (slot_ne (Or.inr (hw _ (List.mem_of_getElem? (i := 37) rfl))) (Or.inr (hw _ (List.mem_of_getElem? (i := 47) rfl))) (by decide) (t := .int) (t' := (.array .double)) (by decide) (by decide)))
  replace G_lower := Fld.other W68 G_lower (Or.inr (slot_ne (Or.inr (hw _ (List.mem_of_getElem? (i := 49) rfl))) (Or.inr (hw _ (List.mem_of_getElem? (i := 47) rfl))) (by decide) (t := (.array .double)) (t' := (.array .double)) (by decide) (by decide)))
  replace G_upper := Fld.other W68 G_upper (Or.inr (slot_ne (Or.inr (hw _ (List.mem_of_getElem? (i := 51) rfl))) (Or.inr (hw _ (List.mem_of_getElem? (i := 47) rfl))) (by decide) (t := (.array .double)) (t' := (.array .double)) (by decide) (by decide)))
  replace G_value := Fld.other W68 G_value (Or.inr (slot_ne (Or.inr (hw _ (List.mem_of_getElem? (i := 53) rfl))) (Or.inr (hw _ (List.mem_of_getElem? (i := 47) rfl))) (by decide) (t := (.array .double)) (t' := (.array .double)) (by decide) (by decide)))
  replace G_columnPlace := Fld.other W68 G_columnPlace (Or.inr (slot_ne (Or.inr (hw _ (List.mem_of_getElem? (i := 55) rfl))) (Or.inr (hw _ (List.mem_of_getElem? (i := 47) rfl))) (by decide) (t := (.array .int)) (t' := (.array .double)) (by decide) (by decide)))
  replace G_columnRows := Fld.other W68 G_columnRows (Or.inr (slot_ne (Or.inl (hw _ (List.mem_of_getElem? (i := 62) rfl))) (Or.inr (hw _ (List.mem_of_getElem? (i := 47) rfl))) (by decide) (t := (.array (.array .int))) (t' := (.array .double)) (by decide) (by decide)))
  replace G_columnCoefficients := Fld.other W68 G_columnCoefficients (Or.inr (slot_ne (Or.inl (hw _ (List.mem_of_getElem? (i := 64) rfl))) (Or.inr (hw _ (List.mem_of_getElem? (i := 47) rfl))) (by decide) (t := (.array (.array .double))) (t' := (.array .double)) (by decide) (by decide)))
  replace G_columnLengths := Fld.other W68 G_columnLengths (Or.inr (slot_ne (Or.inl (hw _ (List.mem_of_getElem? (i := 66) rfl))) (Or.inr (hw _ (List.mem_of_getElem? (i := 47) rfl))) (by decide) (t := (.array .int)) (t' := (.array .double)) (by decide) (by decide)))
  replace G_reduced := Fld.other W68 G_reduced (Or.inr (slot_ne (Or.inr (hw _ (List.mem_of_getElem? (i := 68) rfl))) (Or.inr (hw _ (List.mem_of_getElem? (i := 47) rfl))) (by decide) (t := (.array .double)) (t' := (.array .double)) (by decide) (by decide)))
  replace G_pivotRow := Fld.other W68 G_pivotRow (Or.inr (slot_ne (Or.inr (hw _ (List.mem_of_getElem? (i := 70) rfl))) (Or.inr (hw _ (List.mem_of_getElem? (i := 47) rfl))) (by decide) (t := (.array .double)) (t' := (.array .double)) (by decide) (by decide)))
  replace A_ca := A_ca.other W68 n_ca
  replace E_ca := Exa.wr W68 E_ca
  replace A_la := A_la.other W68 n_la
  replace E_la := Exa.wr W68 E_la
  replace A_ua := A_ua.other W68 n_ua
  replace E_ua := Exa.wr W68 E_ua
  replace A_b63 := A_b63.other W68 (Ne.symm ne_a_b63)
  replace E_b63 := Exa.wr W68 E_b63
  replace G_cost := Fld.same W68 G_cost
  refine aloadN P d1_107 rfl rfl (n := 108) rfl ?_
  refine aloadN P d1_108 rfl rfl (n := 109) rfl ?_
  refine cloneD P d1_109 (ad := "[D") (cap := 3) (hw _ (List.mem_of_getElem? (i := 38) rfl)) (hw _ (List.mem_of_getElem? (i := 39) rfl)) (hw _ (List.mem_of_getElem? (i := 43) rfl)) (hw _ (List.mem_of_getElem? (i := 41) rfl)) (hw _ (List.mem_of_getElem? (i := 42) rfl)) (hw _ (List.mem_of_getElem? (i := 44) rfl)) A_la E_la rfl (by decide) (Nat.le_of_ble_eq_true rfl) (by decide) (by decide) (n := 112) rfl ?_
  intro T h70 b69 P X71 g72 lo_b69 A_b69 E_b69
  have ne_a_b69 : a ≠ b69 := Nat.ne_of_lt (g72 ▸ E_a.lt)
  have ne_b63_b69 : b63 ≠ b69 := Nat.ne_of_lt (g72 ▸ A_b63.lt)
  have ne_ca_b69 : ca ≠ b69 := Nat.ne_of_lt (g72 ▸ A_ca.lt)
  have ne_la_b69 : la ≠ b69 := Nat.ne_of_lt (g72 ▸ A_la.lt)
  have ne_ua_b69 : ua ≠ b69 := Nat.ne_of_lt (g72 ▸ A_ua.lt)
  replace E_a := Exa.ext X71 E_a
  replace G_columns := Fld.ext X71 G_columns
  replace G_cost := Fld.ext X71 G_cost
  replace G_lower := Fld.ext X71 G_lower
  replace G_upper := Fld.ext X71 G_upper
  replace G_value := Fld.ext X71 G_value
  replace G_columnPlace := Fld.ext X71 G_columnPlace
  replace G_columnRows := Fld.ext X71 G_columnRows
  replace G_columnCoefficients := Fld.ext X71 G_columnCoefficients
  replace G_columnLengths := Fld.ext X71 G_columnLengths
  replace G_reduced := Fld.ext X71 G_reduced
  replace G_pivotRow := Fld.ext X71 G_pivotRow
  replace A_ca := A_ca.ext X71
  replace E_ca := Exa.ext X71 E_ca
  replace A_la := A_la.ext X71
  replace E_la := Exa.ext X71 E_la
  replace A_ua := A_ua.ext X71
  replace E_ua := Exa.ext X71 E_ua
  replace A_b63 := A_b63.ext X71
  refine castX P d1_112 (hw _ (List.mem_of_getElem? (i := 14) rfl)) (Ins.of_exa E_b69 (hw _ (List.mem_of_getElem? (i := 45) rfl))) (n := 115) rfl ?_
  intro T P
  refine putF P d1_115 (hw _ (List.mem_of_getElem? (i := 48) rfl)) G_lower E_a (Or.inr ⟨(hw _ (List.mem_of_getElem? (i := 49) rfl)), rfl, rfl⟩) (hw _ (List.mem_of_getElem? (i := 2) rfl)) (ty := (.array .double)) (by decide) rfl rfl lo_a (n := 118) rfl ?_
  intro T h73 P W74
  replace E_a := Exa.wr W74 E_a
  replace G_columns := Fld.other W74 G_columns (Or.inr (slot_ne (Or.inr (hw _ (List.mem_of_getElem? (i := 37) rfl))) (Or.inr (hw _ (List.mem_of_getElem? (i := 49) rfl))) (by decide) (t := .int) (t' := (.array .double)) (by decide) (by decide)))
  replace G_cost := Fld.other W74 G_cost (Or.inr (slot_ne (Or.inr (hw _ (List.mem_of_getElem? (i := 47) rfl))) (Or.inr (hw _ (List.mem_of_getElem? (i := 49) rfl))) (by decide) (t := (.array .double)) (t' := (.array .double)) (by decide) (by decide)))
  replace G_upper := Fld.other W74 G_upper (Or.inr (slot_ne (Or.inr (hw _ (List.mem_of_getElem? (i := 51) rfl))) (Or.inr (hw _ (List.mem_of_getElem? (i := 49) rfl))) (by decide) (t := (.array .double)) (t' := (.array .double)) (by decide) (by decide)))
  replace G_value := Fld.other W74 G_value (Or.inr (slot_ne (Or.inr (hw _ (List.mem_of_getElem? (i := 53) rfl))) (Or.inr (hw _ (List.mem_of_getElem? (i := 49) rfl))) (by decide) (t := (.array .double)) (t' := (.array .double)) (by decide) (by decide)))
  replace G_columnPlace := Fld.other W74 G_columnPlace (Or.inr (slot_ne (Or.inr (hw _ (List.mem_of_getElem? (i := 55) rfl))) (Or.inr (hw _ (List.mem_of_getElem? (i := 49) rfl))) (by decide) (t := (.array .int)) (t' := (.array .double)) (by decide) (by decide)))
  replace G_columnRows := Fld.other W74 G_columnRows (Or.inr (slot_ne (Or.inl (hw _ (List.mem_of_getElem? (i := 62) rfl))) (Or.inr (hw _ (List.mem_of_getElem? (i := 49) rfl))) (by decide) (t := (.array (.array .int))) (t' := (.array .double)) (by decide) (by decide)))
  replace G_columnCoefficients := Fld.other W74 G_columnCoefficients (Or.inr (slot_ne (Or.inl (hw _ (List.mem_of_getElem? (i := 64) rfl))) (Or.inr (hw _ (List.mem_of_getElem? (i := 49) rfl))) (by decide) (t := (.array (.array .double))) (t' := (.array .double)) (by decide) (by decide)))
  replace G_columnLengths := Fld.other W74 G_columnLengths (Or.inr (slot_ne (Or.inl (hw _ (List.mem_of_getElem? (i := 66) rfl))) (Or.inr (hw _ (List.mem_of_getElem? (i := 49) rfl))) (by decide) (t := (.array .int)) (t' := (.array .double)) (by decide) (by decide)))
  replace G_reduced := Fld.other W74 G_reduced (Or.inr (slot_ne (Or.inr (hw _ (List.mem_of_getElem? (i := 68) rfl))) (Or.inr (hw _ (List.mem_of_getElem? (i := 49) rfl))) (by decide) (t := (.array .double)) (t' := (.array .double)) (by decide) (by decide)))
  replace G_pivotRow := Fld.other W74 G_pivotRow (Or.inr (slot_ne (Or.inr (hw _ (List.mem_of_getElem? (i := 70) rfl))) (Or.inr (hw _ (List.mem_of_getElem? (i := 49) rfl))) (by decide) (t := (.array .double)) (t' := (.array .double)) (by decide) (by decide)))
  replace A_ca := A_ca.other W74 n_ca
  replace E_ca := Exa.wr W74 E_ca
  replace A_la := A_la.other W74 n_la
  replace E_la := Exa.wr W74 E_la
  replace A_ua := A_ua.other W74 n_ua
  replace E_ua := Exa.wr W74 E_ua
  replace A_b63 := A_b63.other W74 (Ne.symm ne_a_b63)
  replace A_b69 := A_b69.other W74 (Ne.symm ne_a_b69)
  replace E_b69 := Exa.wr W74 E_b69
  replace G_lower := Fld.same W74 G_lower
  refine aloadN P d1_118 rfl rfl (n := 119) rfl ?_
  refine aloadN P d1_119 rfl rfl (n := 120) rfl ?_
  refine cloneD P d1_120 (ad := "[D") (cap := 3) (hw _ (List.mem_of_getElem? (i := 38) rfl)) (hw _ (List.mem_of_getElem? (i := 39) rfl)) (hw _ (List.mem_of_getElem? (i := 43) rfl)) (hw _ (List.mem_of_getElem? (i := 41) rfl)) (hw _ (List.mem_of_getElem? (i := 42) rfl)) (hw _ (List.mem_of_getElem? (i := 44) rfl)) A_ua E_ua rfl (by decide) (Nat.le_of_ble_eq_true rfl) (by decide) (by decide) (n := 123) rfl ?_
  intro T h76 b75 P X77 g78 lo_b75 A_b75 E_b75
  have ne_a_b75 : a ≠ b75 := Nat.ne_of_lt (g78 ▸ E_a.lt)
  have ne_b63_b75 : b63 ≠ b75 := Nat.ne_of_lt (g78 ▸ A_b63.lt)
  have ne_b69_b75 : b69 ≠ b75 := Nat.ne_of_lt (g78 ▸ A_b69.lt)
  have ne_ca_b75 : ca ≠ b75 := Nat.ne_of_lt (g78 ▸ A_ca.lt)
  have ne_la_b75 : la ≠ b75 := Nat.ne_of_lt (g78 ▸ A_la.lt)
  have ne_ua_b75 : ua ≠ b75 := Nat.ne_of_lt (g78 ▸ A_ua.lt)
  replace E_a := Exa.ext X77 E_a
  replace G_columns := Fld.ext X77 G_columns
  replace G_cost := Fld.ext X77 G_cost
  replace G_lower := Fld.ext X77 G_lower
  replace G_upper := Fld.ext X77 G_upper
  replace G_value := Fld.ext X77 G_value
  replace G_columnPlace := Fld.ext X77 G_columnPlace
  replace G_columnRows := Fld.ext X77 G_columnRows
  replace G_columnCoefficients := Fld.ext X77 G_columnCoefficients
  replace G_columnLengths := Fld.ext X77 G_columnLengths
  replace G_reduced := Fld.ext X77 G_reduced
  replace G_pivotRow := Fld.ext X77 G_pivotRow
  replace A_ca := A_ca.ext X77
  replace E_ca := Exa.ext X77 E_ca
  replace A_la := A_la.ext X77
  replace E_la := Exa.ext X77 E_la
  replace A_ua := A_ua.ext X77
  replace E_ua := Exa.ext X77 E_ua
  replace A_b63 := A_b63.ext X77
  replace A_b69 := A_b69.ext X77
  refine castX P d1_123 (hw _ (List.mem_of_getElem? (i := 14) rfl)) (Ins.of_exa E_b75 (hw _ (List.mem_of_getElem? (i := 45) rfl))) (n := 126) rfl ?_
  intro T P
  refine putF P d1_126 (hw _ (List.mem_of_getElem? (i := 50) rfl)) G_upper E_a (Or.inr ⟨(hw _ (List.mem_of_getElem? (i := 51) rfl)), rfl, rfl⟩) (hw _ (List.mem_of_getElem? (i := 2) rfl)) (ty := (.array .double)) (by decide) rfl rfl lo_a (n := 129) rfl ?_
  intro T h79 P W80
  replace E_a := Exa.wr W80 E_a
  replace G_columns := Fld.other W80 G_columns (Or.inr (slot_ne (Or.inr (hw _ (List.mem_of_getElem? (i := 37) rfl))) (Or.inr (hw _ (List.mem_of_getElem? (i := 51) rfl))) (by decide) (t := .int) (t' := (.array .double)) (by decide) (by decide)))
  replace G_cost := Fld.other W80 G_cost (Or.inr (slot_ne (Or.inr (hw _ (List.mem_of_getElem? (i := 47) rfl))) (Or.inr (hw _ (List.mem_of_getElem? (i := 51) rfl))) (by decide) (t := (.array .double)) (t' := (.array .double)) (by decide) (by decide)))
  replace G_lower := Fld.other W80 G_lower (Or.inr (slot_ne (Or.inr (hw _ (List.mem_of_getElem? (i := 49) rfl))) (Or.inr (hw _ (List.mem_of_getElem? (i := 51) rfl))) (by decide) (t := (.array .double)) (t' := (.array .double)) (by decide) (by decide)))
  replace G_value := Fld.other W80 G_value (Or.inr (slot_ne (Or.inr (hw _ (List.mem_of_getElem? (i := 53) rfl))) (Or.inr (hw _ (List.mem_of_getElem? (i := 51) rfl))) (by decide) (t := (.array .double)) (t' := (.array .double)) (by decide) (by decide)))
  replace G_columnPlace := Fld.other W80 G_columnPlace (Or.inr (slot_ne (Or.inr (hw _ (List.mem_of_getElem? (i := 55) rfl))) (Or.inr (hw _ (List.mem_of_getElem? (i := 51) rfl))) (by decide) (t := (.array .int)) (t' := (.array .double)) (by decide) (by decide)))
  replace G_columnRows := Fld.other W80 G_columnRows (Or.inr (slot_ne (Or.inl (hw _ (List.mem_of_getElem? (i := 62) rfl))) (Or.inr (hw _ (List.mem_of_getElem? (i := 51) rfl))) (by decide) (t := (.array (.array .int))) (t' := (.array .double)) (by decide) (by decide)))
  replace G_columnCoefficients := Fld.other W80 G_columnCoefficients (Or.inr (slot_ne (Or.inl (hw _ (List.mem_of_getElem? (i := 64) rfl))) (Or.inr (hw _ (List.mem_of_getElem? (i := 51) rfl))) (by decide) (t := (.array (.array .double))) (t' := (.array .double)) (by decide) (by decide)))
  replace G_columnLengths := Fld.other W80 G_columnLengths (Or.inr (slot_ne (Or.inl (hw _ (List.mem_of_getElem? (i := 66) rfl))) (Or.inr (hw _ (List.mem_of_getElem? (i := 51) rfl))) (by decide) (t := (.array .int)) (t' := (.array .double)) (by decide) (by decide)))
  replace G_reduced := Fld.other W80 G_reduced (Or.inr (slot_ne (Or.inr (hw _ (List.mem_of_getElem? (i := 68) rfl))) (Or.inr (hw _ (List.mem_of_getElem? (i := 51) rfl))) (by decide) (t := (.array .double)) (t' := (.array .double)) (by decide) (by decide)))
  replace G_pivotRow := Fld.other W80 G_pivotRow (Or.inr (slot_ne (Or.inr (hw _ (List.mem_of_getElem? (i := 70) rfl))) (Or.inr (hw _ (List.mem_of_getElem? (i := 51) rfl))) (by decide) (t := (.array .double)) (t' := (.array .double)) (by decide) (by decide)))
  replace A_ca := A_ca.other W80 n_ca
  replace E_ca := Exa.wr W80 E_ca
  replace A_la := A_la.other W80 n_la
  replace E_la := Exa.wr W80 E_la
  replace A_ua := A_ua.other W80 n_ua
  replace E_ua := Exa.wr W80 E_ua
  replace A_b63 := A_b63.other W80 (Ne.symm ne_a_b63)
  replace A_b69 := A_b69.other W80 (Ne.symm ne_a_b69)
  replace A_b75 := A_b75.other W80 (Ne.symm ne_a_b75)
  replace E_b75 := Exa.wr W80 E_b75
  replace G_upper := Fld.same W80 G_upper
  refine aloadN P d1_129 rfl rfl (n := 130) rfl ?_
  refine aloadN P d1_130 rfl rfl (n := 131) rfl ?_
  refine getF P d1_131 (hw _ (List.mem_of_getElem? (i := 36) rfl)) G_columns (n := 134) rfl ?_
  intro T P
  refine newPE P d1_134 (ad := "[D") (hw _ (List.mem_of_getElem? (i := 0) rfl)) (k := 3) (cap := 3) ⟨rfl, by decide⟩ (by decide) (by decide) (by decide) (n := 136) rfl ?_
  intro T h82 b81 P X83 g84 lo_b81 A_b81 E_b81
  have ne_a_b81 : a ≠ b81 := Nat.ne_of_lt (g84 ▸ E_a.lt)
  have ne_b63_b81 : b63 ≠ b81 := Nat.ne_of_lt (g84 ▸ A_b63.lt)
  have ne_b69_b81 : b69 ≠ b81 := Nat.ne_of_lt (g84 ▸ A_b69.lt)
  have ne_b75_b81 : b75 ≠ b81 := Nat.ne_of_lt (g84 ▸ A_b75.lt)
  have ne_ca_b81 : ca ≠ b81 := Nat.ne_of_lt (g84 ▸ A_ca.lt)
  have ne_la_b81 : la ≠ b81 := Nat.ne_of_lt (g84 ▸ A_la.lt)
  have ne_ua_b81 : ua ≠ b81 := Nat.ne_of_lt (g84 ▸ A_ua.lt)
  replace E_a := Exa.ext X83 E_a
  replace G_columns := Fld.ext X83 G_columns
  replace G_cost := Fld.ext X83 G_cost
  replace G_lower := Fld.ext X83 G_lower
  replace G_upper := Fld.ext X83 G_upper
  replace G_value := Fld.ext X83 G_value
  replace G_columnPlace := Fld.ext X83 G_columnPlace
  replace G_columnRows := Fld.ext X83 G_columnRows
  replace G_columnCoefficients := Fld.ext X83 G_columnCoefficients
  replace G_columnLengths := Fld.ext X83 G_columnLengths
  replace G_reduced := Fld.ext X83 G_reduced
  replace G_pivotRow := Fld.ext X83 G_pivotRow
  replace A_ca := A_ca.ext X83
  replace E_ca := Exa.ext X83 E_ca
  replace A_la := A_la.ext X83
  replace E_la := Exa.ext X83 E_la
  replace A_ua := A_ua.ext X83
  replace E_ua := Exa.ext X83 E_ua
  replace A_b63 := A_b63.ext X83
  replace A_b69 := A_b69.ext X83
  replace A_b75 := A_b75.ext X83
  replace A_b81 : ARD Z h82 b81 3 (fun _ => 0) := A_b81
  refine putF P d1_136 (hw _ (List.mem_of_getElem? (i := 52) rfl)) G_value E_a (Or.inr ⟨(hw _ (List.mem_of_getElem? (i := 53) rfl)), rfl, rfl⟩) (hw _ (List.mem_of_getElem? (i := 2) rfl)) (ty := (.array .double)) (by decide) rfl rfl lo_a (n := 139) rfl ?_
  intro T h85 P W86
  replace E_a := Exa.wr W86 E_a
  replace G_columns := Fld.other W86 G_columns (Or.inr (slot_ne (Or.inr (hw _ (List.mem_of_getElem? (i := 37) rfl))) (Or.inr (hw _ (List.mem_of_getElem? (i := 53) rfl))) (by decide) (t := .int) (t' := (.array .double)) (by decide) (by decide)))
  replace G_cost := Fld.other W86 G_cost (Or.inr (slot_ne (Or.inr (hw _ (List.mem_of_getElem? (i := 47) rfl))) (Or.inr (hw _ (List.mem_of_getElem? (i := 53) rfl))) (by decide) (t := (.array .double)) (t' := (.array .double)) (by decide) (by decide)))
  replace G_lower := Fld.other W86 G_lower (Or.inr (slot_ne (Or.inr (hw _ (List.mem_of_getElem? (i := 49) rfl))) (Or.inr (hw _ (List.mem_of_getElem? (i := 53) rfl))) (by decide) (t := (.array .double)) (t' := (.array .double)) (by decide) (by decide)))
  replace G_upper := Fld.other W86 G_upper (Or.inr (slot_ne (Or.inr (hw _ (List.mem_of_getElem? (i := 51) rfl))) (Or.inr (hw _ (List.mem_of_getElem? (i := 53) rfl))) (by decide) (t := (.array .double)) (t' := (.array .double)) (by decide) (by decide)))
  replace G_columnPlace := Fld.other W86 G_columnPlace (Or.inr (slot_ne (Or.inr (hw _ (List.mem_of_getElem? (i := 55) rfl))) (Or.inr (hw _ (List.mem_of_getElem? (i := 53) rfl))) (by decide) (t := (.array .int)) (t' := (.array .double)) (by decide) (by decide)))
  replace G_columnRows := Fld.other W86 G_columnRows (Or.inr (slot_ne (Or.inl (hw _ (List.mem_of_getElem? (i := 62) rfl))) (Or.inr (hw _ (List.mem_of_getElem? (i := 53) rfl))) (by decide) (t := (.array (.array .int))) (t' := (.array .double)) (by decide) (by decide)))
  replace G_columnCoefficients := Fld.other W86 G_columnCoefficients (Or.inr (slot_ne (Or.inl (hw _ (List.mem_of_getElem? (i := 64) rfl))) (Or.inr (hw _ (List.mem_of_getElem? (i := 53) rfl))) (by decide) (t := (.array (.array .double))) (t' := (.array .double)) (by decide) (by decide)))
  replace G_columnLengths := Fld.other W86 G_columnLengths (Or.inr (slot_ne (Or.inl (hw _ (List.mem_of_getElem? (i := 66) rfl))) (Or.inr (hw _ (List.mem_of_getElem? (i := 53) rfl))) (by decide) (t := (.array .int)) (t' := (.array .double)) (by decide) (by decide)))
  replace G_reduced := Fld.other W86 G_reduced (Or.inr (slot_ne (Or.inr (hw _ (List.mem_of_getElem? (i := 68) rfl))) (Or.inr (hw _ (List.mem_of_getElem? (i := 53) rfl))) (by decide) (t := (.array .double)) (t' := (.array .double)) (by decide) (by decide)))
  replace G_pivotRow := Fld.other W86 G_pivotRow (Or.inr (slot_ne (Or.inr (hw _ (List.mem_of_getElem? (i := 70) rfl))) (Or.inr (hw _ (List.mem_of_getElem? (i := 53) rfl))) (by decide) (t := (.array .double)) (t' := (.array .double)) (by decide) (by decide)))
  replace A_ca := A_ca.other W86 n_ca
  replace E_ca := Exa.wr W86 E_ca
  replace A_la := A_la.other W86 n_la
  replace E_la := Exa.wr W86 E_la
  replace A_ua := A_ua.other W86 n_ua
  replace E_ua := Exa.wr W86 E_ua
  replace A_b63 := A_b63.other W86 (Ne.symm ne_a_b63)
  replace A_b69 := A_b69.other W86 (Ne.symm ne_a_b69)
  replace A_b75 := A_b75.other W86 (Ne.symm ne_a_b75)
  replace A_b81 := A_b81.other W86 (Ne.symm ne_a_b81)
  replace E_b81 := Exa.wr W86 E_b81
  replace G_value := Fld.same W86 G_value
  refine aloadN P d1_139 rfl rfl (n := 140) rfl ?_
  refine aloadN P d1_140 rfl rfl (n := 141) rfl ?_
  refine getF P d1_141 (hw _ (List.mem_of_getElem? (i := 36) rfl)) G_columns (n := 144) rfl ?_
  intro T P
  refine newP P d1_144 (hw _ (List.mem_of_getElem? (i := 22) rfl)) (k := 3) (cap := 3) ⟨rfl, by decide⟩ (by decide) (by decide) (n := 146) rfl ?_
  intro T h88 b87 P X89 g90 lo_b87 A_b87
  have ne_a_b87 : a ≠ b87 := Nat.ne_of_lt (g90 ▸ E_a.lt)
  have ne_b63_b87 : b63 ≠ b87 := Nat.ne_of_lt (g90 ▸ A_b63.lt)
  have ne_b69_b87 : b69 ≠ b87 := Nat.ne_of_lt (g90 ▸ A_b69.lt)
  have ne_b75_b87 : b75 ≠ b87 := Nat.ne_of_lt (g90 ▸ A_b75.lt)
  have ne_b81_b87 : b81 ≠ b87 := Nat.ne_of_lt (g90 ▸ A_b81.lt)
  have ne_ca_b87 : ca ≠ b87 := Nat.ne_of_lt (g90 ▸ A_ca.lt)
  have ne_la_b87 : la ≠ b87 := Nat.ne_of_lt (g90 ▸ A_la.lt)
  have ne_ua_b87 : ua ≠ b87 := Nat.ne_of_lt (g90 ▸ A_ua.lt)
  replace E_a := Exa.ext X89 E_a
  replace G_columns := Fld.ext X89 G_columns
  replace G_cost := Fld.ext X89 G_cost
  replace G_lower := Fld.ext X89 G_lower
  replace G_upper := Fld.ext X89 G_upper
  replace G_value := Fld.ext X89 G_value
  replace G_columnPlace := Fld.ext X89 G_columnPlace
  replace G_columnRows := Fld.ext X89 G_columnRows
  replace G_columnCoefficients := Fld.ext X89 G_columnCoefficients
  replace G_columnLengths := Fld.ext X89 G_columnLengths
  replace G_reduced := Fld.ext X89 G_reduced
  replace G_pivotRow := Fld.ext X89 G_pivotRow
  replace A_ca := A_ca.ext X89
  replace E_ca := Exa.ext X89 E_ca
  replace A_la := A_la.ext X89
  replace E_la := Exa.ext X89 E_la
  replace A_ua := A_ua.ext X89
  replace E_ua := Exa.ext X89 E_ua
  replace A_b63 := A_b63.ext X89
  replace A_b69 := A_b69.ext X89
  replace A_b75 := A_b75.ext X89
  replace A_b81 := A_b81.ext X89
  replace A_b87 : ARI Z h88 b87 .int 3 (fun _ => 0) := A_b87
  refine putF P d1_146 (hw _ (List.mem_of_getElem? (i := 54) rfl)) G_columnPlace E_a (Or.inr ⟨(hw _ (List.mem_of_getElem? (i := 55) rfl)), rfl, rfl⟩) (hw _ (List.mem_of_getElem? (i := 2) rfl)) (ty := (.array .int)) (by decide) rfl rfl lo_a (n := 149) rfl ?_
  intro T h91 P W92
  replace E_a := Exa.wr W92 E_a
  replace G_columns := Fld.other W92 G_columns (Or.inr (slot_ne (Or.inr (hw _ (List.mem_of_getElem? (i := 37) rfl))) (Or.inr (hw _ (List.mem_of_getElem? (i := 55) rfl))) (by decide) (t := .int) (t' := (.array .int)) (by decide) (by decide)))
  replace G_cost := Fld.other W92 G_cost (Or.inr (slot_ne (Or.inr (hw _ (List.mem_of_getElem? (i := 47) rfl))) (Or.inr (hw _ (List.mem_of_getElem? (i := 55) rfl))) (by decide) (t := (.array .double)) (t' := (.array .int)) (by decide) (by decide)))
  replace G_lower := Fld.other W92 G_lower (Or.inr (slot_ne (Or.inr (hw _ (List.mem_of_getElem? (i := 49) rfl))) (Or.inr (hw _ (List.mem_of_getElem? (i := 55) rfl))) (by decide) (t := (.array .double)) (t' := (.array .int)) (by decide) (by decide)))
  replace G_upper := Fld.other W92 G_upper (Or.inr (slot_ne (Or.inr (hw _ (List.mem_of_getElem? (i := 51) rfl))) (Or.inr (hw _ (List.mem_of_getElem? (i := 55) rfl))) (by decide) (t := (.array .double)) (t' := (.array .int)) (by decide) (by decide)))
  replace G_value := Fld.other W92 G_value (Or.inr (slot_ne (Or.inr (hw _ (List.mem_of_getElem? (i := 53) rfl))) (Or.inr (hw _ (List.mem_of_getElem? (i := 55) rfl))) (by decide) (t := (.array .double)) (t' := (.array .int)) (by decide) (by decide)))
  replace G_columnRows := Fld.other W92 G_columnRows (Or.inr (slot_ne (Or.inl (hw _ (List.mem_of_getElem? (i := 62) rfl))) (Or.inr (hw _ (List.mem_of_getElem? (i := 55) rfl))) (by decide) (t := (.array (.array .int))) (t' := (.array .int)) (by decide) (by decide)))
  replace G_columnCoefficients := Fld.other W92 G_columnCoefficients (Or.inr (slot_ne (Or.inl (hw _ (List.mem_of_getElem? (i := 64) rfl))) (Or.inr (hw _ (List.mem_of_getElem? (i := 55) rfl))) (by decide) (t := (.array (.array .double))) (t' := (.array .int)) (by decide) (by decide)))
  replace G_columnLengths := Fld.other W92 G_columnLengths (Or.inr (slot_ne (Or.inl (hw _ (List.mem_of_getElem? (i := 66) rfl))) (Or.inr (hw _ (List.mem_of_getElem? (i := 55) rfl))) (by decide) (t := (.array .int)) (t' := (.array .int)) (by decide) (by decide)))
  replace G_reduced := Fld.other W92 G_reduced (Or.inr (slot_ne (Or.inr (hw _ (List.mem_of_getElem? (i := 68) rfl))) (Or.inr (hw _ (List.mem_of_getElem? (i := 55) rfl))) (by decide) (t := (.array .double)) (t' := (.array .int)) (by decide) (by decide)))
  replace G_pivotRow := Fld.other W92 G_pivotRow (Or.inr (slot_ne (Or.inr (hw _ (List.mem_of_getElem? (i := 70) rfl))) (Or.inr (hw _ (List.mem_of_getElem? (i := 55) rfl))) (by decide) (t := (.array .double)) (t' := (.array .int)) (by decide) (by decide)))
  replace A_ca := A_ca.other W92 n_ca
  replace E_ca := Exa.wr W92 E_ca
  replace A_la := A_la.other W92 n_la
  replace E_la := Exa.wr W92 E_la
  replace A_ua := A_ua.other W92 n_ua
  replace E_ua := Exa.wr W92 E_ua
  replace A_b63 := A_b63.other W92 (Ne.symm ne_a_b63)
  replace A_b69 := A_b69.other W92 (Ne.symm ne_a_b69)
  replace A_b75 := A_b75.other W92 (Ne.symm ne_a_b75)
  replace A_b81 := A_b81.other W92 (Ne.symm ne_a_b81)
  replace A_b87 := A_b87.other W92 (Ne.symm ne_a_b87)
  replace G_columnPlace := Fld.same W92 G_columnPlace
  refine aloadN P d1_149 rfl rfl (n := 150) rfl ?_
  refine getF P d1_150 (hw _ (List.mem_of_getElem? (i := 54) rfl)) G_columnPlace (n := 153) rfl ?_
  intro T P
  refine iconst P d1_153 (x := (-1 : Int32)) rfl (n := 154) rfl ?_
  refine callS P d1_154 (argsL := [(.ref b87), (.int (-1 : Int32))]) (rest := []) (c_fill l Z a0 hw b87 (-1 : Int32) (fun _ => (0 : Int32)) h91 n0 P.low A_b87 lo_b87) (hw _ (List.mem_of_getElem? (i := 56) rfl)) (hw _ (List.mem_of_getElem? (i := 57) rfl)) (hw _ (List.mem_of_getElem? (i := 58) rfl)) (hw _ (List.mem_of_getElem? (i := 59) rfl)) (by decide) pd_1 rfl rfl rfl ⟨by decide, Nat.le_of_ble_eq_true rfl, by decide, by decide⟩ (n := 157) rfl ?_
  rintro T h93 v P ⟨rfl, K94, A_b87⟩
  replace E_a := Exa.keep E_a K94
  replace G_columns := Fld.keep G_columns K94 (ninS ne_a_b87 nin0)
  replace G_cost := Fld.keep G_cost K94 (ninS ne_a_b87 nin0)
  replace G_lower := Fld.keep G_lower K94 (ninS ne_a_b87 nin0)
  replace G_upper := Fld.keep G_upper K94 (ninS ne_a_b87 nin0)
  replace G_value := Fld.keep G_value K94 (ninS ne_a_b87 nin0)
  replace G_columnPlace := Fld.keep G_columnPlace K94 (ninS ne_a_b87 nin0)
  replace G_columnRows := Fld.keep G_columnRows K94 (ninS ne_a_b87 nin0)
  replace G_columnCoefficients := Fld.keep G_columnCoefficients K94 (ninS ne_a_b87 nin0)
  replace G_columnLengths := Fld.keep G_columnLengths K94 (ninS ne_a_b87 nin0)
  replace G_reduced := Fld.keep G_reduced K94 (ninS ne_a_b87 nin0)
  replace G_pivotRow := Fld.keep G_pivotRow K94 (ninS ne_a_b87 nin0)
  replace A_ca := A_ca.keep K94 (ninS ne_ca_b87 nin0)
  replace E_ca := Exa.keep E_ca K94
  replace A_la := A_la.keep K94 (ninS ne_la_b87 nin0)
  replace E_la := Exa.keep E_la K94
  replace A_ua := A_ua.keep K94 (ninS ne_ua_b87 nin0)
  replace E_ua := Exa.keep E_ua K94
  replace A_b63 := A_b63.keep K94 (ninS ne_b63_b87 nin0)
  replace A_b69 := A_b69.keep K94 (ninS ne_b69_b87 nin0)
  replace A_b75 := A_b75.keep K94 (ninS ne_b75_b87 nin0)
  replace A_b81 := A_b81.keep K94 (ninS ne_b81_b87 nin0)
  show Jvm.Own.Ends p e below s rm_c_new n0 (fun v h => v = none ∧ ∃ (kc kl ku kv kp kr : Addr) (gv : Nat → UInt64), own_S Z n0 h a kc kl ku kv kp kr gc gl gu gv ∧ gv 0 = own_pick (gc 0) (gl 0) (gu 0) ∧ gv 1 = own_pick (gc 1) (gl 1) (gu 1) ∧ gv 2 = own_pick (gc 2) (gl 2) (gu 2)) T (mkF m 157 #[.val (.ref a), .val (.ref ca), .val (.ref la), .val (.ref ua), .unset] [])
  refine aloadN P d1_157 rfl rfl (n := 158) rfl ?_
  refine aloadN P d1_158 rfl rfl (n := 159) rfl ?_
  refine getF P d1_159 (hw _ (List.mem_of_getElem? (i := 36) rfl)) G_columns (n := 162) rfl ?_
  intro T P
  refine iconst P d1_162 (x := (4 : Int32)) rfl (n := 163) rfl ?_
  refine gridX P d1_163 (ty := .int) (N := 3) (cap := 4) (C := "[I") (ad := "[[I") (by decide) (by decide) (hw _ (List.mem_of_getElem? (i := 60) rfl)) (hw _ (List.mem_of_getElem? (i := 11) rfl)) (hw _ (List.mem_of_getElem? (i := 22) rfl)) rfl rfl (by decide) (by decide) (by decide) (n := 167) rfl ?_
  intro T h96 b95 P X97 g98 lo_b95
  have ne_a_b95 : a ≠ b95 := Nat.ne_of_lt (g98 ▸ E_a.lt)
  have ne_b63_b95 : b63 ≠ b95 := Nat.ne_of_lt (g98 ▸ A_b63.lt)
  have ne_b69_b95 : b69 ≠ b95 := Nat.ne_of_lt (g98 ▸ A_b69.lt)
  have ne_b75_b95 : b75 ≠ b95 := Nat.ne_of_lt (g98 ▸ A_b75.lt)
  have ne_b81_b95 : b81 ≠ b95 := Nat.ne_of_lt (g98 ▸ A_b81.lt)
  have ne_b87_b95 : b87 ≠ b95 := Nat.ne_of_lt (g98 ▸ A_b87.lt)
  have ne_ca_b95 : ca ≠ b95 := Nat.ne_of_lt (g98 ▸ A_ca.lt)
  have ne_la_b95 : la ≠ b95 := Nat.ne_of_lt (g98 ▸ A_la.lt)
  have ne_ua_b95 : ua ≠ b95 := Nat.ne_of_lt (g98 ▸ A_ua.lt)
  replace E_a := Exa.ext X97 E_a
  replace G_columns := Fld.ext X97 G_columns
  replace G_cost := Fld.ext X97 G_cost
  replace G_lower := Fld.ext X97 G_lower
  replace G_upper := Fld.ext X97 G_upper
  replace G_value := Fld.ext X97 G_value
  replace G_columnPlace := Fld.ext X97 G_columnPlace
  replace G_columnRows := Fld.ext X97 G_columnRows
  replace G_columnCoefficients := Fld.ext X97 G_columnCoefficients
  replace G_columnLengths := Fld.ext X97 G_columnLengths
  replace G_reduced := Fld.ext X97 G_reduced
  replace G_pivotRow := Fld.ext X97 G_pivotRow
  replace A_ca := A_ca.ext X97
  replace E_ca := Exa.ext X97 E_ca
  replace A_la := A_la.ext X97
  replace E_la := Exa.ext X97 E_la
  replace A_ua := A_ua.ext X97
  replace E_ua := Exa.ext X97 E_ua
  replace A_b63 := A_b63.ext X97
  replace A_b69 := A_b69.ext X97
  replace A_b75 := A_b75.ext X97
  replace A_b81 := A_b81.ext X97
  replace A_b87 := A_b87.ext X97
  refine putF P d1_167 (hw _ (List.mem_of_getElem? (i := 61) rfl)) G_columnRows E_a (Or.inl (hw _ (List.mem_of_getElem? (i := 62) rfl))) (hw _ (List.mem_of_getElem? (i := 2) rfl)) (ty := (.array (.array .int))) (by decide) rfl rfl lo_a (n := 170) rfl ?_
  intro T h99 P W100
  replace E_a := Exa.wr W100 E_a
  replace G_columns := Fld.other W100 G_columns (Or.inr (slot_ne (Or.inr (hw _ (List.mem_of_getElem? (i := 37) rfl))) (Or.inl (hw _ (List.mem_of_getElem? (i := 62) rfl))) (by decide) (t := .int) (t' := (.array (.array .int))) (by decide) (by decide)))
  replace G_cost := Fld.other W100 G_cost (Or.inr (slot_ne (Or.inr (hw _ (List.mem_of_getElem? (i := 47) rfl))) (Or.inl (hw _ (List.mem_of_getElem? (i := 62) rfl))) (by decide) (t := (.array .double)) (t' := (.array (.array .int))) (by decide) (by decide)))
  replace G_lower := Fld.other W100 G_lower (Or.inr (slot_ne (Or.inr (hw _ (List.mem_of_getElem? (i := 49) rfl))) (Or.inl (hw _ (List.mem_of_getElem? (i := 62) rfl))) (by decide) (t := (.array .double)) (t' := (.array (.array .int))) (by decide) (by decide)))
  replace G_upper := Fld.other W100 G_upper (Or.inr (slot_ne (Or.inr (hw _ (List.mem_of_getElem? (i := 51) rfl))) (Or.inl (hw _ (List.mem_of_getElem? (i := 62) rfl))) (by decide) (t := (.array .double)) (t' := (.array (.array .int))) (by decide) (by decide)))
  replace G_value := Fld.other W100 G_value (Or.inr (slot_ne (Or.inr (hw _ (List.mem_of_getElem? (i := 53) rfl))) (Or.inl (hw _ (List.mem_of_getElem? (i := 62) rfl))) (by decide) (t := (.array .double)) (t' := (.array (.array .int))) (by decide) (by decide)))
  replace G_columnPlace := Fld.other W100 G_columnPlace (Or.inr (slot_ne (Or.inr (hw _ (List.mem_of_getElem? (i := 55) rfl))) (Or.inl (hw _ (List.mem_of_getElem? (i := 62) rfl))) (by decide) (t := (.array .int)) (t' := (.array (.array .int))) (by decide) (by decide)))
  replace G_columnCoefficients := Fld.other W100 G_columnCoefficients (Or.inr (slot_ne (Or.inl (hw _ (List.mem_of_getElem? (i := 64) rfl))) (Or.inl (hw _ (List.mem_of_getElem? (i := 62) rfl))) (by decide) (t := (.array (.array .double))) (t' := (.array (.array .int))) (by decide) (by decide)))
  replace G_columnLengths := Fld.other W100 G_columnLengths (Or.inr (slot_ne (Or.inl (hw _ (List.mem_of_getElem? (i := 66) rfl))) (Or.inl (hw _ (List.mem_of_getElem? (i := 62) rfl))) (by decide) (t := (.array .int)) (t' := (.array (.array .int))) (by decide) (by decide)))
  replace G_reduced := Fld.other W100 G_reduced (Or.inr (slot_ne (Or.inr (hw _ (List.mem_of_getElem? (i := 68) rfl))) (Or.inl (hw _ (List.mem_of_getElem? (i := 62) rfl))) (by decide) (t := (.array .double)) (t' := (.array (.array .int))) (by decide) (by decide)))
  replace G_pivotRow := Fld.other W100 G_pivotRow (Or.inr (slot_ne (Or.inr (hw _ (List.mem_of_getElem? (i := 70) rfl))) (Or.inl (hw _ (List.mem_of_getElem? (i := 62) rfl))) (by decide) (t := (.array .double)) (t' := (.array (.array .int))) (by decide) (by decide)))
  replace A_ca := A_ca.other W100 n_ca
  replace E_ca := Exa.wr W100 E_ca
  replace A_la := A_la.other W100 n_la
  replace E_la := Exa.wr W100 E_la
  replace A_ua := A_ua.other W100 n_ua
  replace E_ua := Exa.wr W100 E_ua
  replace A_b63 := A_b63.other W100 (Ne.symm ne_a_b63)
  replace A_b69 := A_b69.other W100 (Ne.symm ne_a_b69)
  replace A_b75 := A_b75.other W100 (Ne.symm ne_a_b75)
  replace A_b81 := A_b81.other W100 (Ne.symm ne_a_b81)
  replace A_b87 := A_b87.other W100 (Ne.symm ne_a_b87)
  replace G_columnRows := Fld.same W100 G_columnRows
  refine aloadN P d1_170 rfl rfl (n := 171) rfl ?_
  refine aloadN P d1_171 rfl rfl (n := 172) rfl ?_
  refine getF P d1_172 (hw _ (List.mem_of_getElem? (i := 36) rfl)) G_columns (n := 175) rfl ?_
  intro T P
  refine iconst P d1_175 (x := (4 : Int32)) rfl (n := 176) rfl ?_
  refine gridX P d1_176 (ty := .double) (N := 3) (cap := 4) (C := "[D") (ad := "[[D") (by decide) (by decide) (hw _ (List.mem_of_getElem? (i := 29) rfl)) (hw _ (List.mem_of_getElem? (i := 15) rfl)) (hw _ (List.mem_of_getElem? (i := 0) rfl)) rfl rfl (by decide) (by decide) (by decide) (n := 180) rfl ?_
  intro T h102 b101 P X103 g104 lo_b101
  have ne_a_b101 : a ≠ b101 := Nat.ne_of_lt (g104 ▸ E_a.lt)
  have ne_b63_b101 : b63 ≠ b101 := Nat.ne_of_lt (g104 ▸ A_b63.lt)
  have ne_b69_b101 : b69 ≠ b101 := Nat.ne_of_lt (g104 ▸ A_b69.lt)
  have ne_b75_b101 : b75 ≠ b101 := Nat.ne_of_lt (g104 ▸ A_b75.lt)
  have ne_b81_b101 : b81 ≠ b101 := Nat.ne_of_lt (g104 ▸ A_b81.lt)
  have ne_b87_b101 : b87 ≠ b101 := Nat.ne_of_lt (g104 ▸ A_b87.lt)
  have ne_ca_b101 : ca ≠ b101 := Nat.ne_of_lt (g104 ▸ A_ca.lt)
  have ne_la_b101 : la ≠ b101 := Nat.ne_of_lt (g104 ▸ A_la.lt)
  have ne_ua_b101 : ua ≠ b101 := Nat.ne_of_lt (g104 ▸ A_ua.lt)
  replace E_a := Exa.ext X103 E_a
  replace G_columns := Fld.ext X103 G_columns
  replace G_cost := Fld.ext X103 G_cost
  replace G_lower := Fld.ext X103 G_lower
  replace G_upper := Fld.ext X103 G_upper
  replace G_value := Fld.ext X103 G_value
  replace G_columnPlace := Fld.ext X103 G_columnPlace
  replace G_columnCoefficients := Fld.ext X103 G_columnCoefficients
  replace G_columnLengths := Fld.ext X103 G_columnLengths
  replace G_reduced := Fld.ext X103 G_reduced
  replace G_pivotRow := Fld.ext X103 G_pivotRow
  replace A_ca := A_ca.ext X103
  replace E_ca := Exa.ext X103 E_ca
  replace A_la := A_la.ext X103
  replace E_la := Exa.ext X103 E_la
  replace A_ua := A_ua.ext X103
  replace E_ua := Exa.ext X103 E_ua
  replace A_b63 := A_b63.ext X103
  replace A_b69 := A_b69.ext X103
  replace A_b75 := A_b75.ext X103
  replace A_b81 := A_b81.ext X103
  replace A_b87 := A_b87.ext X103
  refine putF P d1_180 (hw _ (List.mem_of_getElem? (i := 63) rfl)) G_columnCoefficients E_a (Or.inl (hw _ (List.mem_of_getElem? (i := 64) rfl))) (hw _ (List.mem_of_getElem? (i := 2) rfl)) (ty := (.array (.array .double))) (by decide) rfl rfl lo_a (n := 183) rfl ?_
  intro T h105 P W106
  replace E_a := Exa.wr W106 E_a
  replace G_columns := Fld.other W106 G_columns (Or.inr (slot_ne (Or.inr (hw _ (List.mem_of_getElem? (i := 37) rfl))) (Or.inl (hw _ (List.mem_of_getElem? (i := 64) rfl))) (by decide) (t := .int) (t' := (.array (.array .double))) (by decide) (by decide)))
  replace G_cost := Fld.other W106 G_cost (Or.inr (slot_ne (Or.inr (hw _ (List.mem_of_getElem? (i := 47) rfl))) (Or.inl (hw _ (List.mem_of_getElem? (i := 64) rfl))) (by decide) (t := (.array .double)) (t' := (.array (.array .double))) (by decide) (by decide)))
  replace G_lower := Fld.other W106 G_lower (Or.inr (slot_ne (Or.inr (hw _ (List.mem_of_getElem? (i := 49) rfl))) (Or.inl (hw _ (List.mem_of_getElem? (i := 64) rfl))) (by decide) (t := (.array .double)) (t' := (.array (.array .double))) (by decide) (by decide)))
  replace G_upper := Fld.other W106 G_upper (Or.inr (slot_ne (Or.inr (hw _ (List.mem_of_getElem? (i := 51) rfl))) (Or.inl (hw _ (List.mem_of_getElem? (i := 64) rfl))) (by decide) (t := (.array .double)) (t' := (.array (.array .double))) (by decide) (by decide)))
  replace G_value := Fld.other W106 G_value (Or.inr (slot_ne (Or.inr (hw _ (List.mem_of_getElem? (i := 53) rfl))) (Or.inl (hw _ (List.mem_of_getElem? (i := 64) rfl))) (by decide) (t := (.array .double)) (t' := (.array (.array .double))) (by decide) (by decide)))
  replace G_columnPlace := Fld.other W106 G_columnPlace (Or.inr (slot_ne (Or.inr (hw _ (List.mem_of_getElem? (i := 55) rfl))) (Or.inl (hw _ (List.mem_of_getElem? (i := 64) rfl))) (by decide) (t := (.array .int)) (t' := (.array (.array .double))) (by decide) (by decide)))
  replace G_columnLengths := Fld.other W106 G_columnLengths (Or.inr (slot_ne (Or.inl (hw _ (List.mem_of_getElem? (i := 66) rfl))) (Or.inl (hw _ (List.mem_of_getElem? (i := 64) rfl))) (by decide) (t := (.array .int)) (t' := (.array (.array .double))) (by decide) (by decide)))
  replace G_reduced := Fld.other W106 G_reduced (Or.inr (slot_ne (Or.inr (hw _ (List.mem_of_getElem? (i := 68) rfl))) (Or.inl (hw _ (List.mem_of_getElem? (i := 64) rfl))) (by decide) (t := (.array .double)) (t' := (.array (.array .double))) (by decide) (by decide)))
  replace G_pivotRow := Fld.other W106 G_pivotRow (Or.inr (slot_ne (Or.inr (hw _ (List.mem_of_getElem? (i := 70) rfl))) (Or.inl (hw _ (List.mem_of_getElem? (i := 64) rfl))) (by decide) (t := (.array .double)) (t' := (.array (.array .double))) (by decide) (by decide)))
  replace A_ca := A_ca.other W106 n_ca
  replace E_ca := Exa.wr W106 E_ca
  replace A_la := A_la.other W106 n_la
  replace E_la := Exa.wr W106 E_la
  replace A_ua := A_ua.other W106 n_ua
  replace E_ua := Exa.wr W106 E_ua
  replace A_b63 := A_b63.other W106 (Ne.symm ne_a_b63)
  replace A_b69 := A_b69.other W106 (Ne.symm ne_a_b69)
  replace A_b75 := A_b75.other W106 (Ne.symm ne_a_b75)
  replace A_b81 := A_b81.other W106 (Ne.symm ne_a_b81)
  replace A_b87 := A_b87.other W106 (Ne.symm ne_a_b87)
  replace G_columnCoefficients := Fld.same W106 G_columnCoefficients
  refine aloadN P d1_183 rfl rfl (n := 184) rfl ?_
  refine aloadN P d1_184 rfl rfl (n := 185) rfl ?_
  refine getF P d1_185 (hw _ (List.mem_of_getElem? (i := 36) rfl)) G_columns (n := 188) rfl ?_
  intro T P
  refine newP P d1_188 (hw _ (List.mem_of_getElem? (i := 22) rfl)) (k := 3) (cap := 3) ⟨rfl, by decide⟩ (by decide) (by decide) (n := 190) rfl ?_
  intro T h108 b107 P X109 g110 lo_b107 A_b107
  have ne_a_b107 : a ≠ b107 := Nat.ne_of_lt (g110 ▸ E_a.lt)
  have ne_b63_b107 : b63 ≠ b107 := Nat.ne_of_lt (g110 ▸ A_b63.lt)
  have ne_b69_b107 : b69 ≠ b107 := Nat.ne_of_lt (g110 ▸ A_b69.lt)
  have ne_b75_b107 : b75 ≠ b107 := Nat.ne_of_lt (g110 ▸ A_b75.lt)
  have ne_b81_b107 : b81 ≠ b107 := Nat.ne_of_lt (g110 ▸ A_b81.lt)
  have ne_b87_b107 : b87 ≠ b107 := Nat.ne_of_lt (g110 ▸ A_b87.lt)
  have ne_ca_b107 : ca ≠ b107 := Nat.ne_of_lt (g110 ▸ A_ca.lt)
  have ne_la_b107 : la ≠ b107 := Nat.ne_of_lt (g110 ▸ A_la.lt)
  have ne_ua_b107 : ua ≠ b107 := Nat.ne_of_lt (g110 ▸ A_ua.lt)
  replace E_a := Exa.ext X109 E_a
  replace G_columns := Fld.ext X109 G_columns
  replace G_cost := Fld.ext X109 G_cost
  replace G_lower := Fld.ext X109 G_lower
  replace G_upper := Fld.ext X109 G_upper
  replace G_value := Fld.ext X109 G_value
  replace G_columnPlace := Fld.ext X109 G_columnPlace
  replace G_columnLengths := Fld.ext X109 G_columnLengths
  replace G_reduced := Fld.ext X109 G_reduced
  replace G_pivotRow := Fld.ext X109 G_pivotRow
  replace A_ca := A_ca.ext X109
  replace E_ca := Exa.ext X109 E_ca
  replace A_la := A_la.ext X109
  replace E_la := Exa.ext X109 E_la
  replace A_ua := A_ua.ext X109
  replace E_ua := Exa.ext X109 E_ua
  replace A_b63 := A_b63.ext X109
  replace A_b69 := A_b69.ext X109
  replace A_b75 := A_b75.ext X109
  replace A_b81 := A_b81.ext X109
  replace A_b87 := A_b87.ext X109
  replace A_b107 : ARI Z h108 b107 .int 3 (fun _ => 0) := A_b107
  refine putF P d1_190 (hw _ (List.mem_of_getElem? (i := 65) rfl)) G_columnLengths E_a (Or.inl (hw _ (List.mem_of_getElem? (i := 66) rfl))) (hw _ (List.mem_of_getElem? (i := 2) rfl)) (ty := (.array .int)) (by decide) rfl rfl lo_a (n := 193) rfl ?_
  intro T h111 P W112
  replace E_a := Exa.wr W112 E_a
  replace G_columns := Fld.other W112 G_columns (Or.inr (slot_ne (Or.inr (hw _ (List.mem_of_getElem? (i := 37) rfl))) (Or.inl (hw _ (List.mem_of_getElem? (i := 66) rfl))) (by decide) (t := .int) (t' := (.array .int)) (by decide) (by decide)))
  replace G_cost := Fld.other W112 G_cost (Or.inr (slot_ne (Or.inr (hw _ (List.mem_of_getElem? (i := 47) rfl))) (Or.inl (hw _ (List.mem_of_getElem? (i := 66) rfl))) (by decide) (t := (.array .double)) (t' := (.array .int)) (by decide) (by decide)))
  replace G_lower := Fld.other W112 G_lower (Or.inr (slot_ne (Or.inr (hw _ (List.mem_of_getElem? (i := 49) rfl))) (Or.inl (hw _ (List.mem_of_getElem? (i := 66) rfl))) (by decide) (t := (.array .double)) (t' := (.array .int)) (by decide) (by decide)))
  replace G_upper := Fld.other W112 G_upper (Or.inr (slot_ne (Or.inr (hw _ (List.mem_of_getElem? (i := 51) rfl))) (Or.inl (hw _ (List.mem_of_getElem? (i := 66) rfl))) (by decide) (t := (.array .double)) (t' := (.array .int)) (by decide) (by decide)))
  replace G_value := Fld.other W112 G_value (Or.inr (slot_ne (Or.inr (hw _ (List.mem_of_getElem? (i := 53) rfl))) (Or.inl (hw _ (List.mem_of_getElem? (i := 66) rfl))) (by decide) (t := (.array .double)) (t' := (.array .int)) (by decide) (by decide)))
  replace G_columnPlace := Fld.other W112 G_columnPlace (Or.inr (slot_ne (Or.inr (hw _ (List.mem_of_getElem? (i := 55) rfl))) (Or.inl (hw _ (List.mem_of_getElem? (i := 66) rfl))) (by decide) (t := (.array .int)) (t' := (.array .int)) (by decide) (by decide)))
  replace G_reduced := Fld.other W112 G_reduced (Or.inr (slot_ne (Or.inr (hw _ (List.mem_of_getElem? (i := 68) rfl))) (Or.inl (hw _ (List.mem_of_getElem? (i := 66) rfl))) (by decide) (t := (.array .double)) (t' := (.array .int)) (by decide) (by decide)))
  replace G_pivotRow := Fld.other W112 G_pivotRow (Or.inr (slot_ne (Or.inr (hw _ (List.mem_of_getElem? (i := 70) rfl))) (Or.inl (hw _ (List.mem_of_getElem? (i := 66) rfl))) (by decide) (t := (.array .double)) (t' := (.array .int)) (by decide) (by decide)))
  replace A_ca := A_ca.other W112 n_ca
  replace E_ca := Exa.wr W112 E_ca
  replace A_la := A_la.other W112 n_la
  replace E_la := Exa.wr W112 E_la
  replace A_ua := A_ua.other W112 n_ua
  replace E_ua := Exa.wr W112 E_ua
  replace A_b63 := A_b63.other W112 (Ne.symm ne_a_b63)
  replace A_b69 := A_b69.other W112 (Ne.symm ne_a_b69)
  replace A_b75 := A_b75.other W112 (Ne.symm ne_a_b75)
  replace A_b81 := A_b81.other W112 (Ne.symm ne_a_b81)
  replace A_b87 := A_b87.other W112 (Ne.symm ne_a_b87)
  replace A_b107 := A_b107.other W112 (Ne.symm ne_a_b107)
  replace G_columnLengths := Fld.same W112 G_columnLengths
  refine aloadN P d1_193 rfl rfl (n := 194) rfl ?_
  refine aloadN P d1_194 rfl rfl (n := 195) rfl ?_
  refine getF P d1_195 (hw _ (List.mem_of_getElem? (i := 36) rfl)) G_columns (n := 198) rfl ?_
  intro T P
  refine newPE P d1_198 (ad := "[D") (hw _ (List.mem_of_getElem? (i := 0) rfl)) (k := 3) (cap := 3) ⟨rfl, by decide⟩ (by decide) (by decide) (by decide) (n := 200) rfl ?_
  intro T h114 b113 P X115 g116 lo_b113 A_b113 E_b113
  have ne_a_b113 : a ≠ b113 := Nat.ne_of_lt (g116 ▸ E_a.lt)
  have ne_b63_b113 : b63 ≠ b113 := Nat.ne_of_lt (g116 ▸ A_b63.lt)
  have ne_b69_b113 : b69 ≠ b113 := Nat.ne_of_lt (g116 ▸ A_b69.lt)
  have ne_b75_b113 : b75 ≠ b113 := Nat.ne_of_lt (g116 ▸ A_b75.lt)
  have ne_b81_b113 : b81 ≠ b113 := Nat.ne_of_lt (g116 ▸ A_b81.lt)
  have ne_b87_b113 : b87 ≠ b113 := Nat.ne_of_lt (g116 ▸ A_b87.lt)
  have ne_ca_b113 : ca ≠ b113 := Nat.ne_of_lt (g116 ▸ A_ca.lt)
  have ne_la_b113 : la ≠ b113 := Nat.ne_of_lt (g116 ▸ A_la.lt)
  have ne_ua_b113 : ua ≠ b113 := Nat.ne_of_lt (g116 ▸ A_ua.lt)
  replace E_a := Exa.ext X115 E_a
  replace G_columns := Fld.ext X115 G_columns
  replace G_cost := Fld.ext X115 G_cost
  replace G_lower := Fld.ext X115 G_lower
  replace G_upper := Fld.ext X115 G_upper
  replace G_value := Fld.ext X115 G_value
  replace G_columnPlace := Fld.ext X115 G_columnPlace
  replace G_reduced := Fld.ext X115 G_reduced
  replace G_pivotRow := Fld.ext X115 G_pivotRow
  replace A_ca := A_ca.ext X115
  replace E_ca := Exa.ext X115 E_ca
  replace A_la := A_la.ext X115
  replace E_la := Exa.ext X115 E_la
  replace A_ua := A_ua.ext X115
  replace E_ua := Exa.ext X115 E_ua
  replace A_b63 := A_b63.ext X115
  replace A_b69 := A_b69.ext X115
  replace A_b75 := A_b75.ext X115
  replace A_b81 := A_b81.ext X115
  replace A_b87 := A_b87.ext X115
  replace A_b113 : ARD Z h114 b113 3 (fun _ => 0) := A_b113
  refine putF P d1_200 (hw _ (List.mem_of_getElem? (i := 67) rfl)) G_reduced E_a (Or.inr ⟨(hw _ (List.mem_of_getElem? (i := 68) rfl)), rfl, rfl⟩) (hw _ (List.mem_of_getElem? (i := 2) rfl)) (ty := (.array .double)) (by decide) rfl rfl lo_a (n := 203) rfl ?_
  intro T h117 P W118
  replace E_a := Exa.wr W118 E_a
  replace G_columns := Fld.other W118 G_columns (Or.inr (slot_ne (Or.inr (hw _ (List.mem_of_getElem? (i := 37) rfl))) (Or.inr (hw _ (List.mem_of_getElem? (i := 68) rfl))) (by decide) (t := .int) (t' := (.array .double)) (by decide) (by decide)))
  replace G_cost := Fld.other W118 G_cost (Or.inr (slot_ne (Or.inr (hw _ (List.mem_of_getElem? (i := 47) rfl))) (Or.inr (hw _ (List.mem_of_getElem? (i := 68) rfl))) (by decide) (t := (.array .double)) (t' := (.array .double)) (by decide) (by decide)))
  replace G_lower := Fld.other W118 G_lower (Or.inr (slot_ne (Or.inr (hw _ (List.mem_of_getElem? (i := 49) rfl))) (Or.inr (hw _ (List.mem_of_getElem? (i := 68) rfl))) (by decide) (t := (.array .double)) (t' := (.array .double)) (by decide) (by decide)))
  replace G_upper := Fld.other W118 G_upper (Or.inr (slot_ne (Or.inr (hw _ (List.mem_of_getElem? (i := 51) rfl))) (Or.inr (hw _ (List.mem_of_getElem? (i := 68) rfl))) (by decide) (t := (.array .double)) (t' := (.array .double)) (by decide) (by decide)))
  replace G_value := Fld.other W118 G_value (Or.inr (slot_ne (Or.inr (hw _ (List.mem_of_getElem? (i := 53) rfl))) (Or.inr (hw _ (List.mem_of_getElem? (i := 68) rfl))) (by decide) (t := (.array .double)) (t' := (.array .double)) (by decide) (by decide)))
  replace G_columnPlace := Fld.other W118 G_columnPlace (Or.inr (slot_ne (Or.inr (hw _ (List.mem_of_getElem? (i := 55) rfl))) (Or.inr (hw _ (List.mem_of_getElem? (i := 68) rfl))) (by decide) (t := (.array .int)) (t' := (.array .double)) (by decide) (by decide)))
  replace G_pivotRow := Fld.other W118 G_pivotRow (Or.inr (slot_ne (Or.inr (hw _ (List.mem_of_getElem? (i := 70) rfl))) (Or.inr (hw _ (List.mem_of_getElem? (i := 68) rfl))) (by decide) (t := (.array .double)) (t' := (.array .double)) (by decide) (by decide)))
  replace A_ca := A_ca.other W118 n_ca
  replace E_ca := Exa.wr W118 E_ca
  replace A_la := A_la.other W118 n_la
  replace E_la := Exa.wr W118 E_la
  replace A_ua := A_ua.other W118 n_ua
  replace E_ua := Exa.wr W118 E_ua
  replace A_b63 := A_b63.other W118 (Ne.symm ne_a_b63)
  replace A_b69 := A_b69.other W118 (Ne.symm ne_a_b69)
  replace A_b75 := A_b75.other W118 (Ne.symm ne_a_b75)
  replace A_b81 := A_b81.other W118 (Ne.symm ne_a_b81)
  replace A_b87 := A_b87.other W118 (Ne.symm ne_a_b87)
  replace A_b113 := A_b113.other W118 (Ne.symm ne_a_b113)
  replace E_b113 := Exa.wr W118 E_b113
  replace G_reduced := Fld.same W118 G_reduced
  refine aloadN P d1_203 rfl rfl (n := 204) rfl ?_
  refine aloadN P d1_204 rfl rfl (n := 205) rfl ?_
  refine getF P d1_205 (hw _ (List.mem_of_getElem? (i := 36) rfl)) G_columns (n := 208) rfl ?_
  intro T P
  refine newPE P d1_208 (ad := "[D") (hw _ (List.mem_of_getElem? (i := 0) rfl)) (k := 3) (cap := 3) ⟨rfl, by decide⟩ (by decide) (by decide) (by decide) (n := 210) rfl ?_
  intro T h120 b119 P X121 g122 lo_b119 A_b119 E_b119
  have ne_a_b119 : a ≠ b119 := Nat.ne_of_lt (g122 ▸ E_a.lt)
  have ne_b113_b119 : b113 ≠ b119 := Nat.ne_of_lt (g122 ▸ A_b113.lt)
  have ne_b63_b119 : b63 ≠ b119 := Nat.ne_of_lt (g122 ▸ A_b63.lt)
  have ne_b69_b119 : b69 ≠ b119 := Nat.ne_of_lt (g122 ▸ A_b69.lt)
  have ne_b75_b119 : b75 ≠ b119 := Nat.ne_of_lt (g122 ▸ A_b75.lt)
  have ne_b81_b119 : b81 ≠ b119 := Nat.ne_of_lt (g122 ▸ A_b81.lt)
  have ne_b87_b119 : b87 ≠ b119 := Nat.ne_of_lt (g122 ▸ A_b87.lt)
  have ne_ca_b119 : ca ≠ b119 := Nat.ne_of_lt (g122 ▸ A_ca.lt)
  have ne_la_b119 : la ≠ b119 := Nat.ne_of_lt (g122 ▸ A_la.lt)
  have ne_ua_b119 : ua ≠ b119 := Nat.ne_of_lt (g122 ▸ A_ua.lt)
  replace E_a := Exa.ext X121 E_a
  replace G_columns := Fld.ext X121 G_columns
  replace G_cost := Fld.ext X121 G_cost
  replace G_lower := Fld.ext X121 G_lower
  replace G_upper := Fld.ext X121 G_upper
  replace G_value := Fld.ext X121 G_value
  replace G_columnPlace := Fld.ext X121 G_columnPlace
  replace G_reduced := Fld.ext X121 G_reduced
  replace G_pivotRow := Fld.ext X121 G_pivotRow
  replace A_ca := A_ca.ext X121
  replace E_ca := Exa.ext X121 E_ca
  replace A_la := A_la.ext X121
  replace E_la := Exa.ext X121 E_la
  replace A_ua := A_ua.ext X121
  replace E_ua := Exa.ext X121 E_ua
  replace A_b63 := A_b63.ext X121
  replace A_b69 := A_b69.ext X121
  replace A_b75 := A_b75.ext X121
  replace A_b81 := A_b81.ext X121
  replace A_b87 := A_b87.ext X121
  replace A_b113 := A_b113.ext X121
  replace A_b119 : ARD Z h120 b119 3 (fun _ => 0) := A_b119
  refine putF P d1_210 (hw _ (List.mem_of_getElem? (i := 69) rfl)) G_pivotRow E_a (Or.inr ⟨(hw _ (List.mem_of_getElem? (i := 70) rfl)), rfl, rfl⟩) (hw _ (List.mem_of_getElem? (i := 2) rfl)) (ty := (.array .double)) (by decide) rfl rfl lo_a (n := 213) rfl ?_
  intro T h123 P W124
  replace E_a := Exa.wr W124 E_a
  replace G_columns := Fld.other W124 G_columns (Or.inr (slot_ne (Or.inr (hw _ (List.mem_of_getElem? (i := 37) rfl))) (Or.inr (hw _ (List.mem_of_getElem? (i := 70) rfl))) (by decide) (t := .int) (t' := (.array .double)) (by decide) (by decide)))
  replace G_cost := Fld.other W124 G_cost (Or.inr (slot_ne (Or.inr (hw _ (List.mem_of_getElem? (i := 47) rfl))) (Or.inr (hw _ (List.mem_of_getElem? (i := 70) rfl))) (by decide) (t := (.array .double)) (t' := (.array .double)) (by decide) (by decide)))
  replace G_lower := Fld.other W124 G_lower (Or.inr (slot_ne (Or.inr (hw _ (List.mem_of_getElem? (i := 49) rfl))) (Or.inr (hw _ (List.mem_of_getElem? (i := 70) rfl))) (by decide) (t := (.array .double)) (t' := (.array .double)) (by decide) (by decide)))
  replace G_upper := Fld.other W124 G_upper (Or.inr (slot_ne (Or.inr (hw _ (List.mem_of_getElem? (i := 51) rfl))) (Or.inr (hw _ (List.mem_of_getElem? (i := 70) rfl))) (by decide) (t := (.array .double)) (t' := (.array .double)) (by decide) (by decide)))
  replace G_value := Fld.other W124 G_value (Or.inr (slot_ne (Or.inr (hw _ (List.mem_of_getElem? (i := 53) rfl))) (Or.inr (hw _ (List.mem_of_getElem? (i := 70) rfl))) (by decide) (t := (.array .double)) (t' := (.array .double)) (by decide) (by decide)))
  replace G_columnPlace := Fld.other W124 G_columnPlace (Or.inr (slot_ne (Or.inr (hw _ (List.mem_of_getElem? (i := 55) rfl))) (Or.inr (hw _ (List.mem_of_getElem? (i := 70) rfl))) (by decide) (t := (.array .int)) (t' := (.array .double)) (by decide) (by decide)))
  replace G_reduced := Fld.other W124 G_reduced (Or.inr (slot_ne (Or.inr (hw _ (List.mem_of_getElem? (i := 68) rfl))) (Or.inr (hw _ (List.mem_of_getElem? (i := 70) rfl))) (by decide) (t := (.array .double)) (t' := (.array .double)) (by decide) (by decide)))
  replace A_ca := A_ca.other W124 n_ca
  replace E_ca := Exa.wr W124 E_ca
  replace A_la := A_la.other W124 n_la
  replace E_la := Exa.wr W124 E_la
  replace A_ua := A_ua.other W124 n_ua
  replace E_ua := Exa.wr W124 E_ua
  replace A_b63 := A_b63.other W124 (Ne.symm ne_a_b63)
  replace A_b69 := A_b69.other W124 (Ne.symm ne_a_b69)
  replace A_b75 := A_b75.other W124 (Ne.symm ne_a_b75)
  replace A_b81 := A_b81.other W124 (Ne.symm ne_a_b81)
  replace A_b87 := A_b87.other W124 (Ne.symm ne_a_b87)
  replace A_b113 := A_b113.other W124 (Ne.symm ne_a_b113)
  replace A_b119 := A_b119.other W124 (Ne.symm ne_a_b119)
  replace E_b119 := Exa.wr W124 E_b119
  replace G_pivotRow := Fld.same W124 G_pivotRow
  refine iconst P d1_213 (x := (0 : Int32)) rfl (n := 214) rfl ?_
  refine istore P d1_214 (l' := #[.val (.ref a), .val (.ref ca), .val (.ref la), .val (.ref ua), .val (.int (0 : Int32))]) rfl (n := 216) rfl ?_
  refine iload P d1_216 rfl (n := 218) rfl ?_
  refine aloadN P d1_218 rfl rfl (n := 219) rfl ?_
  refine getF P d1_219 (hw _ (List.mem_of_getElem? (i := 36) rfl)) G_columns (n := 222) rfl ?_
  intro T P
  refine icmp_ge P d1_222 (n' := 258) (n := 225) (by decide) rfl (fun hc222 => ?_) (fun hc222 => ?_)
  · -- pc 222 taken
    replace hc222 : (3 : Int) ≤ (0 : Int) := hc222
    exact absurd hc222 (by decide)
  · -- pc 222 not taken
    replace hc222 : (0 : Int) < (3 : Int) := hc222
    refine aloadN P d1_225 rfl rfl (n := 226) rfl ?_
    refine getF P d1_226 (hw _ (List.mem_of_getElem? (i := 52) rfl)) G_value (n := 229) rfl ?_
    intro T P
    refine iload P d1_229 rfl (n := 231) rfl ?_
    refine aloadN P d1_231 rfl rfl (n := 232) rfl ?_
    refine iload P d1_232 rfl (n := 234) rfl ?_
    refine daloadD P d1_234 A_ca (u := 0) ⟨rfl, by decide⟩ (n := 235) rfl ?_
    refine dconst0 P d1_235 (n := 236) rfl ?_
    refine dcmp P d1_236 (v := (own_v (gc 0))) rfl (n := 237) rfl ?_
    refine if0_lt P d1_237 (n' := 247) (n := 240) (by decide) rfl (fun hc237 => ?_) (fun hc237 => ?_)
    · -- pc 237 taken
      replace hc237 : (own_v (gc 0)).toInt < (0 : Int) := hc237
      have hp0 := hc237
      refine aloadN P d1_247 rfl rfl (n := 248) rfl ?_
      refine iload P d1_248 rfl (n := 250) rfl ?_
      refine daloadD P d1_250 A_la (u := 0) ⟨rfl, by decide⟩ (n := 251) rfl ?_
      refine stD P d1_251 A_b81 (u := 0) ⟨rfl, by decide⟩ lo_b81 (n := 252) rfl ?_
      intro T h125 P W126
      replace E_a := Exa.wr W126 E_a
      replace G_columns := Fld.other W126 G_columns (Or.inl ne_a_b81)
      replace G_cost := Fld.other W126 G_cost (Or.inl ne_a_b81)
      replace G_lower := Fld.other W126 G_lower (Or.inl ne_a_b81)
      replace G_upper := Fld.other W126 G_upper (Or.inl ne_a_b81)
      replace G_value := Fld.other W126 G_value (Or.inl ne_a_b81)
      replace G_columnPlace := Fld.other W126 G_columnPlace (Or.inl ne_a_b81)
      replace G_reduced := Fld.other W126 G_reduced (Or.inl ne_a_b81)
      replace A_ca := A_ca.other W126 ne_ca_b81
      replace E_ca := Exa.wr W126 E_ca
      replace A_la := A_la.other W126 ne_la_b81
      replace E_la := Exa.wr W126 E_la
      replace A_ua := A_ua.other W126 ne_ua_b81
      replace E_ua := Exa.wr W126 E_ua
      replace A_b63 := A_b63.other W126 ne_b63_b81
      replace A_b69 := A_b69.other W126 ne_b69_b81
      replace A_b75 := A_b75.other W126 ne_b75_b81
      replace A_b87 := A_b87.other W126 (Ne.symm ne_b81_b87)
      replace A_b113 := A_b113.other W126 (Ne.symm ne_b81_b113)
      replace A_b81 := ARD.set A_b81 W126
      refine iinc P d1_252 (x := (0 : Int32)) (y := (1 : Int32)) rfl rfl (l' := #[.val (.ref a), .val (.ref ca), .val (.ref la), .val (.ref ua), .val (.int ((0 : Int32) + (1 : Int32)))]) rfl (n := 255) rfl ?_
      rw [show ((0 : Int32) + (1 : Int32)) = (1 : Int32) from by decide]
      refine goto P d1_255 (n := 216) (by decide) ?_
      refine iload P d1_216 rfl (n := 218) rfl ?_
      refine aloadN P d1_218 rfl rfl (n := 219) rfl ?_
      refine getF P d1_219 (hw _ (List.mem_of_getElem? (i := 36) rfl)) G_columns (n := 222) rfl ?_
      intro T P
      refine icmp_ge P d1_222 (n' := 258) (n := 225) (by decide) rfl (fun hc222 => ?_) (fun hc222 => ?_)
      · -- pc 222 taken
        replace hc222 : (3 : Int) ≤ (1 : Int) := hc222
        exact absurd hc222 (by decide)
      · -- pc 222 not taken
        replace hc222 : (1 : Int) < (3 : Int) := hc222
        refine aloadN P d1_225 rfl rfl (n := 226) rfl ?_
        refine getF P d1_226 (hw _ (List.mem_of_getElem? (i := 52) rfl)) G_value (n := 229) rfl ?_
        intro T P
        refine iload P d1_229 rfl (n := 231) rfl ?_
        refine aloadN P d1_231 rfl rfl (n := 232) rfl ?_
        refine iload P d1_232 rfl (n := 234) rfl ?_
        refine daloadD P d1_234 A_ca (u := 1) ⟨rfl, by decide⟩ (n := 235) rfl ?_
        refine dconst0 P d1_235 (n := 236) rfl ?_
        refine dcmp P d1_236 (v := (own_v (gc 1))) rfl (n := 237) rfl ?_
        refine if0_lt P d1_237 (n' := 247) (n := 240) (by decide) rfl (fun hc237 => ?_) (fun hc237 => ?_)
        · -- pc 237 taken
          replace hc237 : (own_v (gc 1)).toInt < (0 : Int) := hc237
          have hp1 := hc237
          refine aloadN P d1_247 rfl rfl (n := 248) rfl ?_
          refine iload P d1_248 rfl (n := 250) rfl ?_
          refine daloadD P d1_250 A_la (u := 1) ⟨rfl, by decide⟩ (n := 251) rfl ?_
          refine stD P d1_251 A_b81 (u := 1) ⟨rfl, by decide⟩ lo_b81 (n := 252) rfl ?_
          intro T h127 P W128
          replace E_a := Exa.wr W128 E_a
          replace G_columns := Fld.other W128 G_columns (Or.inl ne_a_b81)
          replace G_cost := Fld.other W128 G_cost (Or.inl ne_a_b81)
          replace G_lower := Fld.other W128 G_lower (Or.inl ne_a_b81)
          replace G_upper := Fld.other W128 G_upper (Or.inl ne_a_b81)
          replace G_value := Fld.other W128 G_value (Or.inl ne_a_b81)
          replace G_columnPlace := Fld.other W128 G_columnPlace (Or.inl ne_a_b81)
          replace G_reduced := Fld.other W128 G_reduced (Or.inl ne_a_b81)
          replace A_ca := A_ca.other W128 ne_ca_b81
          replace E_ca := Exa.wr W128 E_ca
          replace A_la := A_la.other W128 ne_la_b81
          replace E_la := Exa.wr W128 E_la
          replace A_ua := A_ua.other W128 ne_ua_b81
          replace E_ua := Exa.wr W128 E_ua
          replace A_b63 := A_b63.other W128 ne_b63_b81
          replace A_b69 := A_b69.other W128 ne_b69_b81
          replace A_b75 := A_b75.other W128 ne_b75_b81
          replace A_b87 := A_b87.other W128 (Ne.symm ne_b81_b87)
          replace A_b113 := A_b113.other W128 (Ne.symm ne_b81_b113)
          replace A_b81 := ARD.set A_b81 W128
          refine iinc P d1_252 (x := (1 : Int32)) (y := (1 : Int32)) rfl rfl (l' := #[.val (.ref a), .val (.ref ca), .val (.ref la), .val (.ref ua), .val (.int ((1 : Int32) + (1 : Int32)))]) rfl (n := 255) rfl ?_
          rw [show ((1 : Int32) + (1 : Int32)) = (2 : Int32) from by decide]
          refine goto P d1_255 (n := 216) (by decide) ?_
          refine iload P d1_216 rfl (n := 218) rfl ?_
          refine aloadN P d1_218 rfl rfl (n := 219) rfl ?_
          refine getF P d1_219 (hw _ (List.mem_of_getElem? (i := 36) rfl)) G_columns (n := 222) rfl ?_
          intro T P
          refine icmp_ge P d1_222 (n' := 258) (n := 225) (by decide) rfl (fun hc222 => ?_) (fun hc222 => ?_)
          · -- pc 222 taken
            replace hc222 : (3 : Int) ≤ (2 : Int) := hc222
            exact absurd hc222 (by decide)
          · -- pc 222 not taken
            replace hc222 : (2 : Int) < (3 : Int) := hc222
            refine aloadN P d1_225 rfl rfl (n := 226) rfl ?_
            refine getF P d1_226 (hw _ (List.mem_of_getElem? (i := 52) rfl)) G_value (n := 229) rfl ?_
            intro T P
            refine iload P d1_229 rfl (n := 231) rfl ?_
            refine aloadN P d1_231 rfl rfl (n := 232) rfl ?_
            refine iload P d1_232 rfl (n := 234) rfl ?_
            refine daloadD P d1_234 A_ca (u := 2) ⟨rfl, by decide⟩ (n := 235) rfl ?_
            refine dconst0 P d1_235 (n := 236) rfl ?_
            refine dcmp P d1_236 (v := (own_v (gc 2))) rfl (n := 237) rfl ?_
            refine if0_lt P d1_237 (n' := 247) (n := 240) (by decide) rfl (fun hc237 => ?_) (fun hc237 => ?_)
            · -- pc 237 taken
              replace hc237 : (own_v (gc 2)).toInt < (0 : Int) := hc237
              have hp2 := hc237
              refine aloadN P d1_247 rfl rfl (n := 248) rfl ?_
              refine iload P d1_248 rfl (n := 250) rfl ?_
              refine daloadD P d1_250 A_la (u := 2) ⟨rfl, by decide⟩ (n := 251) rfl ?_
              refine stD P d1_251 A_b81 (u := 2) ⟨rfl, by decide⟩ lo_b81 (n := 252) rfl ?_
              intro T h129 P W130
              replace E_a := Exa.wr W130 E_a
              replace G_columns := Fld.other W130 G_columns (Or.inl ne_a_b81)
              replace G_cost := Fld.other W130 G_cost (Or.inl ne_a_b81)
              replace G_lower := Fld.other W130 G_lower (Or.inl ne_a_b81)
              replace G_upper := Fld.other W130 G_upper (Or.inl ne_a_b81)
              replace G_value := Fld.other W130 G_value (Or.inl ne_a_b81)
              replace G_columnPlace := Fld.other W130 G_columnPlace (Or.inl ne_a_b81)
              replace G_reduced := Fld.other W130 G_reduced (Or.inl ne_a_b81)
              replace A_ca := A_ca.other W130 ne_ca_b81
              replace E_ca := Exa.wr W130 E_ca
              replace A_la := A_la.other W130 ne_la_b81
              replace E_la := Exa.wr W130 E_la
              replace A_ua := A_ua.other W130 ne_ua_b81
              replace E_ua := Exa.wr W130 E_ua
              replace A_b63 := A_b63.other W130 ne_b63_b81
              replace A_b69 := A_b69.other W130 ne_b69_b81
              replace A_b75 := A_b75.other W130 ne_b75_b81
              replace A_b87 := A_b87.other W130 (Ne.symm ne_b81_b87)
              replace A_b113 := A_b113.other W130 (Ne.symm ne_b81_b113)
              replace A_b81 := ARD.set A_b81 W130
              refine iinc P d1_252 (x := (2 : Int32)) (y := (1 : Int32)) rfl rfl (l' := #[.val (.ref a), .val (.ref ca), .val (.ref la), .val (.ref ua), .val (.int ((2 : Int32) + (1 : Int32)))]) rfl (n := 255) rfl ?_
              rw [show ((2 : Int32) + (1 : Int32)) = (3 : Int32) from by decide]
              refine goto P d1_255 (n := 216) (by decide) ?_
              refine iload P d1_216 rfl (n := 218) rfl ?_
              refine aloadN P d1_218 rfl rfl (n := 219) rfl ?_
              refine getF P d1_219 (hw _ (List.mem_of_getElem? (i := 36) rfl)) G_columns (n := 222) rfl ?_
              intro T P
              refine icmp_ge P d1_222 (n' := 258) (n := 225) (by decide) rfl (fun hc222 => ?_) (fun hc222 => ?_)
              · -- pc 222 taken
                replace hc222 : (3 : Int) ≤ (3 : Int) := hc222
                refine retV P d1_258 (by decide) (by decide) ?_
                exact ⟨rfl, b63, b69, b75, b81, b87, b113, (ovr (ovr (ovr (fun _ => (0 : UInt64)) 0 (gl 0)) 1 (gl 1)) 2 (gl 2)), ⟨E_a, G_columns, G_cost, G_lower, G_upper, G_value, G_columnPlace, G_reduced, A_b63, A_b69, A_b75, A_b81, A_b87, A_b113, lo_b69, lo_b75, lo_b81, ne_b69_b75, ne_b69_b81, ne_b75_b81, ne_b63_b69, ne_b63_b75, ne_b63_b81, (Ne.symm ne_b69_b87), (Ne.symm ne_b75_b87), (Ne.symm ne_b81_b87), (Ne.symm ne_b69_b113), (Ne.symm ne_b75_b113), (Ne.symm ne_b81_b113), ne_a_b69, ne_a_b75, ne_a_b81⟩, (show (gl 0) = own_pick (gc 0) (gl 0) (gu 0) from (if_pos hp0).symm), (show (gl 1) = own_pick (gc 1) (gl 1) (gu 1) from (if_pos hp1).symm), (show (gl 2) = own_pick (gc 2) (gl 2) (gu 2) from (if_pos hp2).symm)⟩
              · -- pc 222 not taken
                replace hc222 : (3 : Int) < (3 : Int) := hc222
                exact absurd hc222 (by decide)
            · -- pc 237 not taken
              replace hc237 : (0 : Int) ≤ (own_v (gc 2)).toInt := hc237
              have hp2 := hc237
              refine aloadN P d1_240 rfl rfl (n := 241) rfl ?_
              refine iload P d1_241 rfl (n := 243) rfl ?_
              refine daloadD P d1_243 A_ua (u := 2) ⟨rfl, by decide⟩ (n := 244) rfl ?_
              refine goto P d1_244 (n := 251) (by decide) ?_
              refine stD P d1_251 A_b81 (u := 2) ⟨rfl, by decide⟩ lo_b81 (n := 252) rfl ?_
              intro T h131 P W132
              replace E_a := Exa.wr W132 E_a
              replace G_columns := Fld.other W132 G_columns (Or.inl ne_a_b81)
              replace G_cost := Fld.other W132 G_cost (Or.inl ne_a_b81)
              replace G_lower := Fld.other W132 G_lower (Or.inl ne_a_b81)
              replace G_upper := Fld.other W132 G_upper (Or.inl ne_a_b81)
              replace G_value := Fld.other W132 G_value (Or.inl ne_a_b81)
              replace G_columnPlace := Fld.other W132 G_columnPlace (Or.inl ne_a_b81)
              replace G_reduced := Fld.other W132 G_reduced (Or.inl ne_a_b81)
              replace A_ca := A_ca.other W132 ne_ca_b81
              replace E_ca := Exa.wr W132 E_ca
              replace A_la := A_la.other W132 ne_la_b81
              replace E_la := Exa.wr W132 E_la
              replace A_ua := A_ua.other W132 ne_ua_b81
              replace E_ua := Exa.wr W132 E_ua
              replace A_b63 := A_b63.other W132 ne_b63_b81
              replace A_b69 := A_b69.other W132 ne_b69_b81
              replace A_b75 := A_b75.other W132 ne_b75_b81
              replace A_b87 := A_b87.other W132 (Ne.symm ne_b81_b87)
              replace A_b113 := A_b113.other W132 (Ne.symm ne_b81_b113)
              replace A_b81 := ARD.set A_b81 W132
              refine iinc P d1_252 (x := (2 : Int32)) (y := (1 : Int32)) rfl rfl (l' := #[.val (.ref a), .val (.ref ca), .val (.ref la), .val (.ref ua), .val (.int ((2 : Int32) + (1 : Int32)))]) rfl (n := 255) rfl ?_
              rw [show ((2 : Int32) + (1 : Int32)) = (3 : Int32) from by decide]
              refine goto P d1_255 (n := 216) (by decide) ?_
              refine iload P d1_216 rfl (n := 218) rfl ?_
              refine aloadN P d1_218 rfl rfl (n := 219) rfl ?_
              refine getF P d1_219 (hw _ (List.mem_of_getElem? (i := 36) rfl)) G_columns (n := 222) rfl ?_
              intro T P
              refine icmp_ge P d1_222 (n' := 258) (n := 225) (by decide) rfl (fun hc222 => ?_) (fun hc222 => ?_)
              · -- pc 222 taken
                replace hc222 : (3 : Int) ≤ (3 : Int) := hc222
                refine retV P d1_258 (by decide) (by decide) ?_
                exact ⟨rfl, b63, b69, b75, b81, b87, b113, (ovr (ovr (ovr (fun _ => (0 : UInt64)) 0 (gl 0)) 1 (gl 1)) 2 (gu 2)), ⟨E_a, G_columns, G_cost, G_lower, G_upper, G_value, G_columnPlace, G_reduced, A_b63, A_b69, A_b75, A_b81, A_b87, A_b113, lo_b69, lo_b75, lo_b81, ne_b69_b75, ne_b69_b81, ne_b75_b81, ne_b63_b69, ne_b63_b75, ne_b63_b81, (Ne.symm ne_b69_b87), (Ne.symm ne_b75_b87), (Ne.symm ne_b81_b87), (Ne.symm ne_b69_b113), (Ne.symm ne_b75_b113), (Ne.symm ne_b81_b113), ne_a_b69, ne_a_b75, ne_a_b81⟩, (show (gl 0) = own_pick (gc 0) (gl 0) (gu 0) from (if_pos hp0).symm), (show (gl 1) = own_pick (gc 1) (gl 1) (gu 1) from (if_pos hp1).symm), (show (gu 2) = own_pick (gc 2) (gl 2) (gu 2) from (if_neg (Int.not_lt.mpr hp2)).symm)⟩
              · -- pc 222 not taken
                replace hc222 : (3 : Int) < (3 : Int) := hc222
                exact absurd hc222 (by decide)
        · -- pc 237 not taken
          replace hc237 : (0 : Int) ≤ (own_v (gc 1)).toInt := hc237
          have hp1 := hc237
          refine aloadN P d1_240 rfl rfl (n := 241) rfl ?_
          refine iload P d1_241 rfl (n := 243) rfl ?_
          refine daloadD P d1_243 A_ua (u := 1) ⟨rfl, by decide⟩ (n := 244) rfl ?_
          refine goto P d1_244 (n := 251) (by decide) ?_
          refine stD P d1_251 A_b81 (u := 1) ⟨rfl, by decide⟩ lo_b81 (n := 252) rfl ?_
          intro T h133 P W134
          replace E_a := Exa.wr W134 E_a
          replace G_columns := Fld.other W134 G_columns (Or.inl ne_a_b81)
          replace G_cost := Fld.other W134 G_cost (Or.inl ne_a_b81)
          replace G_lower := Fld.other W134 G_lower (Or.inl ne_a_b81)
          replace G_upper := Fld.other W134 G_upper (Or.inl ne_a_b81)
          replace G_value := Fld.other W134 G_value (Or.inl ne_a_b81)
          replace G_columnPlace := Fld.other W134 G_columnPlace (Or.inl ne_a_b81)
          replace G_reduced := Fld.other W134 G_reduced (Or.inl ne_a_b81)
          replace A_ca := A_ca.other W134 ne_ca_b81
          replace E_ca := Exa.wr W134 E_ca
          replace A_la := A_la.other W134 ne_la_b81
          replace E_la := Exa.wr W134 E_la
          replace A_ua := A_ua.other W134 ne_ua_b81
          replace E_ua := Exa.wr W134 E_ua
          replace A_b63 := A_b63.other W134 ne_b63_b81
          replace A_b69 := A_b69.other W134 ne_b69_b81
          replace A_b75 := A_b75.other W134 ne_b75_b81
          replace A_b87 := A_b87.other W134 (Ne.symm ne_b81_b87)
          replace A_b113 := A_b113.other W134 (Ne.symm ne_b81_b113)
          replace A_b81 := ARD.set A_b81 W134
          refine iinc P d1_252 (x := (1 : Int32)) (y := (1 : Int32)) rfl rfl (l' := #[.val (.ref a), .val (.ref ca), .val (.ref la), .val (.ref ua), .val (.int ((1 : Int32) + (1 : Int32)))]) rfl (n := 255) rfl ?_
          rw [show ((1 : Int32) + (1 : Int32)) = (2 : Int32) from by decide]
          refine goto P d1_255 (n := 216) (by decide) ?_
          refine iload P d1_216 rfl (n := 218) rfl ?_
          refine aloadN P d1_218 rfl rfl (n := 219) rfl ?_
          refine getF P d1_219 (hw _ (List.mem_of_getElem? (i := 36) rfl)) G_columns (n := 222) rfl ?_
          intro T P
          refine icmp_ge P d1_222 (n' := 258) (n := 225) (by decide) rfl (fun hc222 => ?_) (fun hc222 => ?_)
          · -- pc 222 taken
            replace hc222 : (3 : Int) ≤ (2 : Int) := hc222
            exact absurd hc222 (by decide)
          · -- pc 222 not taken
            replace hc222 : (2 : Int) < (3 : Int) := hc222
            refine aloadN P d1_225 rfl rfl (n := 226) rfl ?_
            refine getF P d1_226 (hw _ (List.mem_of_getElem? (i := 52) rfl)) G_value (n := 229) rfl ?_
            intro T P
            refine iload P d1_229 rfl (n := 231) rfl ?_
            refine aloadN P d1_231 rfl rfl (n := 232) rfl ?_
            refine iload P d1_232 rfl (n := 234) rfl ?_
            refine daloadD P d1_234 A_ca (u := 2) ⟨rfl, by decide⟩ (n := 235) rfl ?_
            refine dconst0 P d1_235 (n := 236) rfl ?_
            refine dcmp P d1_236 (v := (own_v (gc 2))) rfl (n := 237) rfl ?_
            refine if0_lt P d1_237 (n' := 247) (n := 240) (by decide) rfl (fun hc237 => ?_) (fun hc237 => ?_)
            · -- pc 237 taken
              replace hc237 : (own_v (gc 2)).toInt < (0 : Int) := hc237
              have hp2 := hc237
              refine aloadN P d1_247 rfl rfl (n := 248) rfl ?_
              refine iload P d1_248 rfl (n := 250) rfl ?_
              refine daloadD P d1_250 A_la (u := 2) ⟨rfl, by decide⟩ (n := 251) rfl ?_
              refine stD P d1_251 A_b81 (u := 2) ⟨rfl, by decide⟩ lo_b81 (n := 252) rfl ?_
              intro T h135 P W136
              replace E_a := Exa.wr W136 E_a
              replace G_columns := Fld.other W136 G_columns (Or.inl ne_a_b81)
              replace G_cost := Fld.other W136 G_cost (Or.inl ne_a_b81)
              replace G_lower := Fld.other W136 G_lower (Or.inl ne_a_b81)
              replace G_upper := Fld.other W136 G_upper (Or.inl ne_a_b81)
              replace G_value := Fld.other W136 G_value (Or.inl ne_a_b81)
              replace G_columnPlace := Fld.other W136 G_columnPlace (Or.inl ne_a_b81)
              replace G_reduced := Fld.other W136 G_reduced (Or.inl ne_a_b81)
              replace A_ca := A_ca.other W136 ne_ca_b81
              replace E_ca := Exa.wr W136 E_ca
              replace A_la := A_la.other W136 ne_la_b81
              replace E_la := Exa.wr W136 E_la
              replace A_ua := A_ua.other W136 ne_ua_b81
              replace E_ua := Exa.wr W136 E_ua
              replace A_b63 := A_b63.other W136 ne_b63_b81
              replace A_b69 := A_b69.other W136 ne_b69_b81
              replace A_b75 := A_b75.other W136 ne_b75_b81
              replace A_b87 := A_b87.other W136 (Ne.symm ne_b81_b87)
              replace A_b113 := A_b113.other W136 (Ne.symm ne_b81_b113)
              replace A_b81 := ARD.set A_b81 W136
              refine iinc P d1_252 (x := (2 : Int32)) (y := (1 : Int32)) rfl rfl (l' := #[.val (.ref a), .val (.ref ca), .val (.ref la), .val (.ref ua), .val (.int ((2 : Int32) + (1 : Int32)))]) rfl (n := 255) rfl ?_
              rw [show ((2 : Int32) + (1 : Int32)) = (3 : Int32) from by decide]
              refine goto P d1_255 (n := 216) (by decide) ?_
              refine iload P d1_216 rfl (n := 218) rfl ?_
              refine aloadN P d1_218 rfl rfl (n := 219) rfl ?_
              refine getF P d1_219 (hw _ (List.mem_of_getElem? (i := 36) rfl)) G_columns (n := 222) rfl ?_
              intro T P
              refine icmp_ge P d1_222 (n' := 258) (n := 225) (by decide) rfl (fun hc222 => ?_) (fun hc222 => ?_)
              · -- pc 222 taken
                replace hc222 : (3 : Int) ≤ (3 : Int) := hc222
                refine retV P d1_258 (by decide) (by decide) ?_
                exact ⟨rfl, b63, b69, b75, b81, b87, b113, (ovr (ovr (ovr (fun _ => (0 : UInt64)) 0 (gl 0)) 1 (gu 1)) 2 (gl 2)), ⟨E_a, G_columns, G_cost, G_lower, G_upper, G_value, G_columnPlace, G_reduced, A_b63, A_b69, A_b75, A_b81, A_b87, A_b113, lo_b69, lo_b75, lo_b81, ne_b69_b75, ne_b69_b81, ne_b75_b81, ne_b63_b69, ne_b63_b75, ne_b63_b81, (Ne.symm ne_b69_b87), (Ne.symm ne_b75_b87), (Ne.symm ne_b81_b87), (Ne.symm ne_b69_b113), (Ne.symm ne_b75_b113), (Ne.symm ne_b81_b113), ne_a_b69, ne_a_b75, ne_a_b81⟩, (show (gl 0) = own_pick (gc 0) (gl 0) (gu 0) from (if_pos hp0).symm), (show (gu 1) = own_pick (gc 1) (gl 1) (gu 1) from (if_neg (Int.not_lt.mpr hp1)).symm), (show (gl 2) = own_pick (gc 2) (gl 2) (gu 2) from (if_pos hp2).symm)⟩
              · -- pc 222 not taken
                replace hc222 : (3 : Int) < (3 : Int) := hc222
                exact absurd hc222 (by decide)
            · -- pc 237 not taken
              replace hc237 : (0 : Int) ≤ (own_v (gc 2)).toInt := hc237
              have hp2 := hc237
              refine aloadN P d1_240 rfl rfl (n := 241) rfl ?_
              refine iload P d1_241 rfl (n := 243) rfl ?_
              refine daloadD P d1_243 A_ua (u := 2) ⟨rfl, by decide⟩ (n := 244) rfl ?_
              refine goto P d1_244 (n := 251) (by decide) ?_
              refine stD P d1_251 A_b81 (u := 2) ⟨rfl, by decide⟩ lo_b81 (n := 252) rfl ?_
              intro T h137 P W138
              replace E_a := Exa.wr W138 E_a
              replace G_columns := Fld.other W138 G_columns (Or.inl ne_a_b81)
              replace G_cost := Fld.other W138 G_cost (Or.inl ne_a_b81)
              replace G_lower := Fld.other W138 G_lower (Or.inl ne_a_b81)
              replace G_upper := Fld.other W138 G_upper (Or.inl ne_a_b81)
              replace G_value := Fld.other W138 G_value (Or.inl ne_a_b81)
              replace G_columnPlace := Fld.other W138 G_columnPlace (Or.inl ne_a_b81)
              replace G_reduced := Fld.other W138 G_reduced (Or.inl ne_a_b81)
              replace A_ca := A_ca.other W138 ne_ca_b81
              replace E_ca := Exa.wr W138 E_ca
              replace A_la := A_la.other W138 ne_la_b81
              replace E_la := Exa.wr W138 E_la
              replace A_ua := A_ua.other W138 ne_ua_b81
              replace E_ua := Exa.wr W138 E_ua
              replace A_b63 := A_b63.other W138 ne_b63_b81
              replace A_b69 := A_b69.other W138 ne_b69_b81
              replace A_b75 := A_b75.other W138 ne_b75_b81
              replace A_b87 := A_b87.other W138 (Ne.symm ne_b81_b87)
              replace A_b113 := A_b113.other W138 (Ne.symm ne_b81_b113)
              replace A_b81 := ARD.set A_b81 W138
              refine iinc P d1_252 (x := (2 : Int32)) (y := (1 : Int32)) rfl rfl (l' := #[.val (.ref a), .val (.ref ca), .val (.ref la), .val (.ref ua), .val (.int ((2 : Int32) + (1 : Int32)))]) rfl (n := 255) rfl ?_
              rw [show ((2 : Int32) + (1 : Int32)) = (3 : Int32) from by decide]
              refine goto P d1_255 (n := 216) (by decide) ?_
              refine iload P d1_216 rfl (n := 218) rfl ?_
              refine aloadN P d1_218 rfl rfl (n := 219) rfl ?_
              refine getF P d1_219 (hw _ (List.mem_of_getElem? (i := 36) rfl)) G_columns (n := 222) rfl ?_
              intro T P
              refine icmp_ge P d1_222 (n' := 258) (n := 225) (by decide) rfl (fun hc222 => ?_) (fun hc222 => ?_)
              · -- pc 222 taken
                replace hc222 : (3 : Int) ≤ (3 : Int) := hc222
                refine retV P d1_258 (by decide) (by decide) ?_
                exact ⟨rfl, b63, b69, b75, b81, b87, b113, (ovr (ovr (ovr (fun _ => (0 : UInt64)) 0 (gl 0)) 1 (gu 1)) 2 (gu 2)), ⟨E_a, G_columns, G_cost, G_lower, G_upper, G_value, G_columnPlace, G_reduced, A_b63, A_b69, A_b75, A_b81, A_b87, A_b113, lo_b69, lo_b75, lo_b81, ne_b69_b75, ne_b69_b81, ne_b75_b81, ne_b63_b69, ne_b63_b75, ne_b63_b81, (Ne.symm ne_b69_b87), (Ne.symm ne_b75_b87), (Ne.symm ne_b81_b87), (Ne.symm ne_b69_b113), (Ne.symm ne_b75_b113), (Ne.symm ne_b81_b113), ne_a_b69, ne_a_b75, ne_a_b81⟩, (show (gl 0) = own_pick (gc 0) (gl 0) (gu 0) from (if_pos hp0).symm), (show (gu 1) = own_pick (gc 1) (gl 1) (gu 1) from (if_neg (Int.not_lt.mpr hp1)).symm), (show (gu 2) = own_pick (gc 2) (gl 2) (gu 2) from (if_neg (Int.not_lt.mpr hp2)).symm)⟩
              · -- pc 222 not taken
                replace hc222 : (3 : Int) < (3 : Int) := hc222
                exact absurd hc222 (by decide)
    · -- pc 237 not taken
      replace hc237 : (0 : Int) ≤ (own_v (gc 0)).toInt := hc237
      have hp0 := hc237
      refine aloadN P d1_240 rfl rfl (n := 241) rfl ?_
      refine iload P d1_241 rfl (n := 243) rfl ?_
      refine daloadD P d1_243 A_ua (u := 0) ⟨rfl, by decide⟩ (n := 244) rfl ?_
      refine goto P d1_244 (n := 251) (by decide) ?_
      refine stD P d1_251 A_b81 (u := 0) ⟨rfl, by decide⟩ lo_b81 (n := 252) rfl ?_
      intro T h139 P W140
      replace E_a := Exa.wr W140 E_a
      replace G_columns := Fld.other W140 G_columns (Or.inl ne_a_b81)
      replace G_cost := Fld.other W140 G_cost (Or.inl ne_a_b81)
      replace G_lower := Fld.other W140 G_lower (Or.inl ne_a_b81)
      replace G_upper := Fld.other W140 G_upper (Or.inl ne_a_b81)
      replace G_value := Fld.other W140 G_value (Or.inl ne_a_b81)
      replace G_columnPlace := Fld.other W140 G_columnPlace (Or.inl ne_a_b81)
      replace G_reduced := Fld.other W140 G_reduced (Or.inl ne_a_b81)
      replace A_ca := A_ca.other W140 ne_ca_b81
      replace E_ca := Exa.wr W140 E_ca
      replace A_la := A_la.other W140 ne_la_b81
      replace E_la := Exa.wr W140 E_la
      replace A_ua := A_ua.other W140 ne_ua_b81
      replace E_ua := Exa.wr W140 E_ua
      replace A_b63 := A_b63.other W140 ne_b63_b81
      replace A_b69 := A_b69.other W140 ne_b69_b81
      replace A_b75 := A_b75.other W140 ne_b75_b81
      replace A_b87 := A_b87.other W140 (Ne.symm ne_b81_b87)
      replace A_b113 := A_b113.other W140 (Ne.symm ne_b81_b113)
      replace A_b81 := ARD.set A_b81 W140
      refine iinc P d1_252 (x := (0 : Int32)) (y := (1 : Int32)) rfl rfl (l' := #[.val (.ref a), .val (.ref ca), .val (.ref la), .val (.ref ua), .val (.int ((0 : Int32) + (1 : Int32)))]) rfl (n := 255) rfl ?_
      rw [show ((0 : Int32) + (1 : Int32)) = (1 : Int32) from by decide]
      refine goto P d1_255 (n := 216) (by decide) ?_
      refine iload P d1_216 rfl (n := 218) rfl ?_
      refine aloadN P d1_218 rfl rfl (n := 219) rfl ?_
      refine getF P d1_219 (hw _ (List.mem_of_getElem? (i := 36) rfl)) G_columns (n := 222) rfl ?_
      intro T P
      refine icmp_ge P d1_222 (n' := 258) (n := 225) (by decide) rfl (fun hc222 => ?_) (fun hc222 => ?_)
      · -- pc 222 taken
        replace hc222 : (3 : Int) ≤ (1 : Int) := hc222
        exact absurd hc222 (by decide)
      · -- pc 222 not taken
        replace hc222 : (1 : Int) < (3 : Int) := hc222
        refine aloadN P d1_225 rfl rfl (n := 226) rfl ?_
        refine getF P d1_226 (hw _ (List.mem_of_getElem? (i := 52) rfl)) G_value (n := 229) rfl ?_
        intro T P
        refine iload P d1_229 rfl (n := 231) rfl ?_
        refine aloadN P d1_231 rfl rfl (n := 232) rfl ?_
        refine iload P d1_232 rfl (n := 234) rfl ?_
        refine daloadD P d1_234 A_ca (u := 1) ⟨rfl, by decide⟩ (n := 235) rfl ?_
        refine dconst0 P d1_235 (n := 236) rfl ?_
        refine dcmp P d1_236 (v := (own_v (gc 1))) rfl (n := 237) rfl ?_
        refine if0_lt P d1_237 (n' := 247) (n := 240) (by decide) rfl (fun hc237 => ?_) (fun hc237 => ?_)
        · -- pc 237 taken
          replace hc237 : (own_v (gc 1)).toInt < (0 : Int) := hc237
          have hp1 := hc237
          refine aloadN P d1_247 rfl rfl (n := 248) rfl ?_
          refine iload P d1_248 rfl (n := 250) rfl ?_
          refine daloadD P d1_250 A_la (u := 1) ⟨rfl, by decide⟩ (n := 251) rfl ?_
          refine stD P d1_251 A_b81 (u := 1) ⟨rfl, by decide⟩ lo_b81 (n := 252) rfl ?_
          intro T h141 P W142
          replace E_a := Exa.wr W142 E_a
          replace G_columns := Fld.other W142 G_columns (Or.inl ne_a_b81)
          replace G_cost := Fld.other W142 G_cost (Or.inl ne_a_b81)
          replace G_lower := Fld.other W142 G_lower (Or.inl ne_a_b81)
          replace G_upper := Fld.other W142 G_upper (Or.inl ne_a_b81)
          replace G_value := Fld.other W142 G_value (Or.inl ne_a_b81)
          replace G_columnPlace := Fld.other W142 G_columnPlace (Or.inl ne_a_b81)
          replace G_reduced := Fld.other W142 G_reduced (Or.inl ne_a_b81)
          replace A_ca := A_ca.other W142 ne_ca_b81
          replace E_ca := Exa.wr W142 E_ca
          replace A_la := A_la.other W142 ne_la_b81
          replace E_la := Exa.wr W142 E_la
          replace A_ua := A_ua.other W142 ne_ua_b81
          replace E_ua := Exa.wr W142 E_ua
          replace A_b63 := A_b63.other W142 ne_b63_b81
          replace A_b69 := A_b69.other W142 ne_b69_b81
          replace A_b75 := A_b75.other W142 ne_b75_b81
          replace A_b87 := A_b87.other W142 (Ne.symm ne_b81_b87)
          replace A_b113 := A_b113.other W142 (Ne.symm ne_b81_b113)
          replace A_b81 := ARD.set A_b81 W142
          refine iinc P d1_252 (x := (1 : Int32)) (y := (1 : Int32)) rfl rfl (l' := #[.val (.ref a), .val (.ref ca), .val (.ref la), .val (.ref ua), .val (.int ((1 : Int32) + (1 : Int32)))]) rfl (n := 255) rfl ?_
          rw [show ((1 : Int32) + (1 : Int32)) = (2 : Int32) from by decide]
          refine goto P d1_255 (n := 216) (by decide) ?_
          refine iload P d1_216 rfl (n := 218) rfl ?_
          refine aloadN P d1_218 rfl rfl (n := 219) rfl ?_
          refine getF P d1_219 (hw _ (List.mem_of_getElem? (i := 36) rfl)) G_columns (n := 222) rfl ?_
          intro T P
          refine icmp_ge P d1_222 (n' := 258) (n := 225) (by decide) rfl (fun hc222 => ?_) (fun hc222 => ?_)
          · -- pc 222 taken
            replace hc222 : (3 : Int) ≤ (2 : Int) := hc222
            exact absurd hc222 (by decide)
          · -- pc 222 not taken
            replace hc222 : (2 : Int) < (3 : Int) := hc222
            refine aloadN P d1_225 rfl rfl (n := 226) rfl ?_
            refine getF P d1_226 (hw _ (List.mem_of_getElem? (i := 52) rfl)) G_value (n := 229) rfl ?_
            intro T P
            refine iload P d1_229 rfl (n := 231) rfl ?_
            refine aloadN P d1_231 rfl rfl (n := 232) rfl ?_
            refine iload P d1_232 rfl (n := 234) rfl ?_
            refine daloadD P d1_234 A_ca (u := 2) ⟨rfl, by decide⟩ (n := 235) rfl ?_
            refine dconst0 P d1_235 (n := 236) rfl ?_
            refine dcmp P d1_236 (v := (own_v (gc 2))) rfl (n := 237) rfl ?_
            refine if0_lt P d1_237 (n' := 247) (n := 240) (by decide) rfl (fun hc237 => ?_) (fun hc237 => ?_)
            · -- pc 237 taken
              replace hc237 : (own_v (gc 2)).toInt < (0 : Int) := hc237
              have hp2 := hc237
              refine aloadN P d1_247 rfl rfl (n := 248) rfl ?_
              refine iload P d1_248 rfl (n := 250) rfl ?_
              refine daloadD P d1_250 A_la (u := 2) ⟨rfl, by decide⟩ (n := 251) rfl ?_
              refine stD P d1_251 A_b81 (u := 2) ⟨rfl, by decide⟩ lo_b81 (n := 252) rfl ?_
              intro T h143 P W144
              replace E_a := Exa.wr W144 E_a
              replace G_columns := Fld.other W144 G_columns (Or.inl ne_a_b81)
              replace G_cost := Fld.other W144 G_cost (Or.inl ne_a_b81)
              replace G_lower := Fld.other W144 G_lower (Or.inl ne_a_b81)
              replace G_upper := Fld.other W144 G_upper (Or.inl ne_a_b81)
              replace G_value := Fld.other W144 G_value (Or.inl ne_a_b81)
              replace G_columnPlace := Fld.other W144 G_columnPlace (Or.inl ne_a_b81)
              replace G_reduced := Fld.other W144 G_reduced (Or.inl ne_a_b81)
              replace A_ca := A_ca.other W144 ne_ca_b81
              replace E_ca := Exa.wr W144 E_ca
              replace A_la := A_la.other W144 ne_la_b81
              replace E_la := Exa.wr W144 E_la
              replace A_ua := A_ua.other W144 ne_ua_b81
              replace E_ua := Exa.wr W144 E_ua
              replace A_b63 := A_b63.other W144 ne_b63_b81
              replace A_b69 := A_b69.other W144 ne_b69_b81
              replace A_b75 := A_b75.other W144 ne_b75_b81
              replace A_b87 := A_b87.other W144 (Ne.symm ne_b81_b87)
              replace A_b113 := A_b113.other W144 (Ne.symm ne_b81_b113)
              replace A_b81 := ARD.set A_b81 W144
              refine iinc P d1_252 (x := (2 : Int32)) (y := (1 : Int32)) rfl rfl (l' := #[.val (.ref a), .val (.ref ca), .val (.ref la), .val (.ref ua), .val (.int ((2 : Int32) + (1 : Int32)))]) rfl (n := 255) rfl ?_
              rw [show ((2 : Int32) + (1 : Int32)) = (3 : Int32) from by decide]
              refine goto P d1_255 (n := 216) (by decide) ?_
              refine iload P d1_216 rfl (n := 218) rfl ?_
              refine aloadN P d1_218 rfl rfl (n := 219) rfl ?_
              refine getF P d1_219 (hw _ (List.mem_of_getElem? (i := 36) rfl)) G_columns (n := 222) rfl ?_
              intro T P
              refine icmp_ge P d1_222 (n' := 258) (n := 225) (by decide) rfl (fun hc222 => ?_) (fun hc222 => ?_)
              · -- pc 222 taken
                replace hc222 : (3 : Int) ≤ (3 : Int) := hc222
                refine retV P d1_258 (by decide) (by decide) ?_
                exact ⟨rfl, b63, b69, b75, b81, b87, b113, (ovr (ovr (ovr (fun _ => (0 : UInt64)) 0 (gu 0)) 1 (gl 1)) 2 (gl 2)), ⟨E_a, G_columns, G_cost, G_lower, G_upper, G_value, G_columnPlace, G_reduced, A_b63, A_b69, A_b75, A_b81, A_b87, A_b113, lo_b69, lo_b75, lo_b81, ne_b69_b75, ne_b69_b81, ne_b75_b81, ne_b63_b69, ne_b63_b75, ne_b63_b81, (Ne.symm ne_b69_b87), (Ne.symm ne_b75_b87), (Ne.symm ne_b81_b87), (Ne.symm ne_b69_b113), (Ne.symm ne_b75_b113), (Ne.symm ne_b81_b113), ne_a_b69, ne_a_b75, ne_a_b81⟩, (show (gu 0) = own_pick (gc 0) (gl 0) (gu 0) from (if_neg (Int.not_lt.mpr hp0)).symm), (show (gl 1) = own_pick (gc 1) (gl 1) (gu 1) from (if_pos hp1).symm), (show (gl 2) = own_pick (gc 2) (gl 2) (gu 2) from (if_pos hp2).symm)⟩
              · -- pc 222 not taken
                replace hc222 : (3 : Int) < (3 : Int) := hc222
                exact absurd hc222 (by decide)
            · -- pc 237 not taken
              replace hc237 : (0 : Int) ≤ (own_v (gc 2)).toInt := hc237
              have hp2 := hc237
              refine aloadN P d1_240 rfl rfl (n := 241) rfl ?_
              refine iload P d1_241 rfl (n := 243) rfl ?_
              refine daloadD P d1_243 A_ua (u := 2) ⟨rfl, by decide⟩ (n := 244) rfl ?_
              refine goto P d1_244 (n := 251) (by decide) ?_
              refine stD P d1_251 A_b81 (u := 2) ⟨rfl, by decide⟩ lo_b81 (n := 252) rfl ?_
              intro T h145 P W146
              replace E_a := Exa.wr W146 E_a
              replace G_columns := Fld.other W146 G_columns (Or.inl ne_a_b81)
              replace G_cost := Fld.other W146 G_cost (Or.inl ne_a_b81)
              replace G_lower := Fld.other W146 G_lower (Or.inl ne_a_b81)
              replace G_upper := Fld.other W146 G_upper (Or.inl ne_a_b81)
              replace G_value := Fld.other W146 G_value (Or.inl ne_a_b81)
              replace G_columnPlace := Fld.other W146 G_columnPlace (Or.inl ne_a_b81)
              replace G_reduced := Fld.other W146 G_reduced (Or.inl ne_a_b81)
              replace A_ca := A_ca.other W146 ne_ca_b81
              replace E_ca := Exa.wr W146 E_ca
              replace A_la := A_la.other W146 ne_la_b81
              replace E_la := Exa.wr W146 E_la
              replace A_ua := A_ua.other W146 ne_ua_b81
              replace E_ua := Exa.wr W146 E_ua
              replace A_b63 := A_b63.other W146 ne_b63_b81
              replace A_b69 := A_b69.other W146 ne_b69_b81
              replace A_b75 := A_b75.other W146 ne_b75_b81
              replace A_b87 := A_b87.other W146 (Ne.symm ne_b81_b87)
              replace A_b113 := A_b113.other W146 (Ne.symm ne_b81_b113)
              replace A_b81 := ARD.set A_b81 W146
              refine iinc P d1_252 (x := (2 : Int32)) (y := (1 : Int32)) rfl rfl (l' := #[.val (.ref a), .val (.ref ca), .val (.ref la), .val (.ref ua), .val (.int ((2 : Int32) + (1 : Int32)))]) rfl (n := 255) rfl ?_
              rw [show ((2 : Int32) + (1 : Int32)) = (3 : Int32) from by decide]
              refine goto P d1_255 (n := 216) (by decide) ?_
              refine iload P d1_216 rfl (n := 218) rfl ?_
              refine aloadN P d1_218 rfl rfl (n := 219) rfl ?_
              refine getF P d1_219 (hw _ (List.mem_of_getElem? (i := 36) rfl)) G_columns (n := 222) rfl ?_
              intro T P
              refine icmp_ge P d1_222 (n' := 258) (n := 225) (by decide) rfl (fun hc222 => ?_) (fun hc222 => ?_)
              · -- pc 222 taken
                replace hc222 : (3 : Int) ≤ (3 : Int) := hc222
                refine retV P d1_258 (by decide) (by decide) ?_
                exact ⟨rfl, b63, b69, b75, b81, b87, b113, (ovr (ovr (ovr (fun _ => (0 : UInt64)) 0 (gu 0)) 1 (gl 1)) 2 (gu 2)), ⟨E_a, G_columns, G_cost, G_lower, G_upper, G_value, G_columnPlace, G_reduced, A_b63, A_b69, A_b75, A_b81, A_b87, A_b113, lo_b69, lo_b75, lo_b81, ne_b69_b75, ne_b69_b81, ne_b75_b81, ne_b63_b69, ne_b63_b75, ne_b63_b81, (Ne.symm ne_b69_b87), (Ne.symm ne_b75_b87), (Ne.symm ne_b81_b87), (Ne.symm ne_b69_b113), (Ne.symm ne_b75_b113), (Ne.symm ne_b81_b113), ne_a_b69, ne_a_b75, ne_a_b81⟩, (show (gu 0) = own_pick (gc 0) (gl 0) (gu 0) from (if_neg (Int.not_lt.mpr hp0)).symm), (show (gl 1) = own_pick (gc 1) (gl 1) (gu 1) from (if_pos hp1).symm), (show (gu 2) = own_pick (gc 2) (gl 2) (gu 2) from (if_neg (Int.not_lt.mpr hp2)).symm)⟩
              · -- pc 222 not taken
                replace hc222 : (3 : Int) < (3 : Int) := hc222
                exact absurd hc222 (by decide)
        · -- pc 237 not taken
          replace hc237 : (0 : Int) ≤ (own_v (gc 1)).toInt := hc237
          have hp1 := hc237
          refine aloadN P d1_240 rfl rfl (n := 241) rfl ?_
          refine iload P d1_241 rfl (n := 243) rfl ?_
          refine daloadD P d1_243 A_ua (u := 1) ⟨rfl, by decide⟩ (n := 244) rfl ?_
          refine goto P d1_244 (n := 251) (by decide) ?_
          refine stD P d1_251 A_b81 (u := 1) ⟨rfl, by decide⟩ lo_b81 (n := 252) rfl ?_
          intro T h147 P W148
          replace E_a := Exa.wr W148 E_a
          replace G_columns := Fld.other W148 G_columns (Or.inl ne_a_b81)
          replace G_cost := Fld.other W148 G_cost (Or.inl ne_a_b81)
          replace G_lower := Fld.other W148 G_lower (Or.inl ne_a_b81)
          replace G_upper := Fld.other W148 G_upper (Or.inl ne_a_b81)
          replace G_value := Fld.other W148 G_value (Or.inl ne_a_b81)
          replace G_columnPlace := Fld.other W148 G_columnPlace (Or.inl ne_a_b81)
          replace G_reduced := Fld.other W148 G_reduced (Or.inl ne_a_b81)
          replace A_ca := A_ca.other W148 ne_ca_b81
          replace E_ca := Exa.wr W148 E_ca
          replace A_la := A_la.other W148 ne_la_b81
          replace E_la := Exa.wr W148 E_la
          replace A_ua := A_ua.other W148 ne_ua_b81
          replace E_ua := Exa.wr W148 E_ua
          replace A_b63 := A_b63.other W148 ne_b63_b81
          replace A_b69 := A_b69.other W148 ne_b69_b81
          replace A_b75 := A_b75.other W148 ne_b75_b81
          replace A_b87 := A_b87.other W148 (Ne.symm ne_b81_b87)
          replace A_b113 := A_b113.other W148 (Ne.symm ne_b81_b113)
          replace A_b81 := ARD.set A_b81 W148
          refine iinc P d1_252 (x := (1 : Int32)) (y := (1 : Int32)) rfl rfl (l' := #[.val (.ref a), .val (.ref ca), .val (.ref la), .val (.ref ua), .val (.int ((1 : Int32) + (1 : Int32)))]) rfl (n := 255) rfl ?_
          rw [show ((1 : Int32) + (1 : Int32)) = (2 : Int32) from by decide]
          refine goto P d1_255 (n := 216) (by decide) ?_
          refine iload P d1_216 rfl (n := 218) rfl ?_
          refine aloadN P d1_218 rfl rfl (n := 219) rfl ?_
          refine getF P d1_219 (hw _ (List.mem_of_getElem? (i := 36) rfl)) G_columns (n := 222) rfl ?_
          intro T P
          refine icmp_ge P d1_222 (n' := 258) (n := 225) (by decide) rfl (fun hc222 => ?_) (fun hc222 => ?_)
          · -- pc 222 taken
            replace hc222 : (3 : Int) ≤ (2 : Int) := hc222
            exact absurd hc222 (by decide)
          · -- pc 222 not taken
            replace hc222 : (2 : Int) < (3 : Int) := hc222
            refine aloadN P d1_225 rfl rfl (n := 226) rfl ?_
            refine getF P d1_226 (hw _ (List.mem_of_getElem? (i := 52) rfl)) G_value (n := 229) rfl ?_
            intro T P
            refine iload P d1_229 rfl (n := 231) rfl ?_
            refine aloadN P d1_231 rfl rfl (n := 232) rfl ?_
            refine iload P d1_232 rfl (n := 234) rfl ?_
            refine daloadD P d1_234 A_ca (u := 2) ⟨rfl, by decide⟩ (n := 235) rfl ?_
            refine dconst0 P d1_235 (n := 236) rfl ?_
            refine dcmp P d1_236 (v := (own_v (gc 2))) rfl (n := 237) rfl ?_
            refine if0_lt P d1_237 (n' := 247) (n := 240) (by decide) rfl (fun hc237 => ?_) (fun hc237 => ?_)
            · -- pc 237 taken
              replace hc237 : (own_v (gc 2)).toInt < (0 : Int) := hc237
              have hp2 := hc237
              refine aloadN P d1_247 rfl rfl (n := 248) rfl ?_
              refine iload P d1_248 rfl (n := 250) rfl ?_
              refine daloadD P d1_250 A_la (u := 2) ⟨rfl, by decide⟩ (n := 251) rfl ?_
              refine stD P d1_251 A_b81 (u := 2) ⟨rfl, by decide⟩ lo_b81 (n := 252) rfl ?_
              intro T h149 P W150
              replace E_a := Exa.wr W150 E_a
              replace G_columns := Fld.other W150 G_columns (Or.inl ne_a_b81)
              replace G_cost := Fld.other W150 G_cost (Or.inl ne_a_b81)
              replace G_lower := Fld.other W150 G_lower (Or.inl ne_a_b81)
              replace G_upper := Fld.other W150 G_upper (Or.inl ne_a_b81)
              replace G_value := Fld.other W150 G_value (Or.inl ne_a_b81)
              replace G_columnPlace := Fld.other W150 G_columnPlace (Or.inl ne_a_b81)
              replace G_reduced := Fld.other W150 G_reduced (Or.inl ne_a_b81)
              replace A_ca := A_ca.other W150 ne_ca_b81
              replace E_ca := Exa.wr W150 E_ca
              replace A_la := A_la.other W150 ne_la_b81
              replace E_la := Exa.wr W150 E_la
              replace A_ua := A_ua.other W150 ne_ua_b81
              replace E_ua := Exa.wr W150 E_ua
              replace A_b63 := A_b63.other W150 ne_b63_b81
              replace A_b69 := A_b69.other W150 ne_b69_b81
              replace A_b75 := A_b75.other W150 ne_b75_b81
              replace A_b87 := A_b87.other W150 (Ne.symm ne_b81_b87)
              replace A_b113 := A_b113.other W150 (Ne.symm ne_b81_b113)
              replace A_b81 := ARD.set A_b81 W150
              refine iinc P d1_252 (x := (2 : Int32)) (y := (1 : Int32)) rfl rfl (l' := #[.val (.ref a), .val (.ref ca), .val (.ref la), .val (.ref ua), .val (.int ((2 : Int32) + (1 : Int32)))]) rfl (n := 255) rfl ?_
              rw [show ((2 : Int32) + (1 : Int32)) = (3 : Int32) from by decide]
              refine goto P d1_255 (n := 216) (by decide) ?_
              refine iload P d1_216 rfl (n := 218) rfl ?_
              refine aloadN P d1_218 rfl rfl (n := 219) rfl ?_
              refine getF P d1_219 (hw _ (List.mem_of_getElem? (i := 36) rfl)) G_columns (n := 222) rfl ?_
              intro T P
              refine icmp_ge P d1_222 (n' := 258) (n := 225) (by decide) rfl (fun hc222 => ?_) (fun hc222 => ?_)
              · -- pc 222 taken
                replace hc222 : (3 : Int) ≤ (3 : Int) := hc222
                refine retV P d1_258 (by decide) (by decide) ?_
                exact ⟨rfl, b63, b69, b75, b81, b87, b113, (ovr (ovr (ovr (fun _ => (0 : UInt64)) 0 (gu 0)) 1 (gu 1)) 2 (gl 2)), ⟨E_a, G_columns, G_cost, G_lower, G_upper, G_value, G_columnPlace, G_reduced, A_b63, A_b69, A_b75, A_b81, A_b87, A_b113, lo_b69, lo_b75, lo_b81, ne_b69_b75, ne_b69_b81, ne_b75_b81, ne_b63_b69, ne_b63_b75, ne_b63_b81, (Ne.symm ne_b69_b87), (Ne.symm ne_b75_b87), (Ne.symm ne_b81_b87), (Ne.symm ne_b69_b113), (Ne.symm ne_b75_b113), (Ne.symm ne_b81_b113), ne_a_b69, ne_a_b75, ne_a_b81⟩, (show (gu 0) = own_pick (gc 0) (gl 0) (gu 0) from (if_neg (Int.not_lt.mpr hp0)).symm), (show (gu 1) = own_pick (gc 1) (gl 1) (gu 1) from (if_neg (Int.not_lt.mpr hp1)).symm), (show (gl 2) = own_pick (gc 2) (gl 2) (gu 2) from (if_pos hp2).symm)⟩
              · -- pc 222 not taken
                replace hc222 : (3 : Int) < (3 : Int) := hc222
                exact absurd hc222 (by decide)
            · -- pc 237 not taken
              replace hc237 : (0 : Int) ≤ (own_v (gc 2)).toInt := hc237
              have hp2 := hc237
              refine aloadN P d1_240 rfl rfl (n := 241) rfl ?_
              refine iload P d1_241 rfl (n := 243) rfl ?_
              refine daloadD P d1_243 A_ua (u := 2) ⟨rfl, by decide⟩ (n := 244) rfl ?_
              refine goto P d1_244 (n := 251) (by decide) ?_
              refine stD P d1_251 A_b81 (u := 2) ⟨rfl, by decide⟩ lo_b81 (n := 252) rfl ?_
              intro T h151 P W152
              replace E_a := Exa.wr W152 E_a
              replace G_columns := Fld.other W152 G_columns (Or.inl ne_a_b81)
              replace G_cost := Fld.other W152 G_cost (Or.inl ne_a_b81)
              replace G_lower := Fld.other W152 G_lower (Or.inl ne_a_b81)
              replace G_upper := Fld.other W152 G_upper (Or.inl ne_a_b81)
              replace G_value := Fld.other W152 G_value (Or.inl ne_a_b81)
              replace G_columnPlace := Fld.other W152 G_columnPlace (Or.inl ne_a_b81)
              replace G_reduced := Fld.other W152 G_reduced (Or.inl ne_a_b81)
              replace A_ca := A_ca.other W152 ne_ca_b81
              replace E_ca := Exa.wr W152 E_ca
              replace A_la := A_la.other W152 ne_la_b81
              replace E_la := Exa.wr W152 E_la
              replace A_ua := A_ua.other W152 ne_ua_b81
              replace E_ua := Exa.wr W152 E_ua
              replace A_b63 := A_b63.other W152 ne_b63_b81
              replace A_b69 := A_b69.other W152 ne_b69_b81
              replace A_b75 := A_b75.other W152 ne_b75_b81
              replace A_b87 := A_b87.other W152 (Ne.symm ne_b81_b87)
              replace A_b113 := A_b113.other W152 (Ne.symm ne_b81_b113)
              replace A_b81 := ARD.set A_b81 W152
              refine iinc P d1_252 (x := (2 : Int32)) (y := (1 : Int32)) rfl rfl (l' := #[.val (.ref a), .val (.ref ca), .val (.ref la), .val (.ref ua), .val (.int ((2 : Int32) + (1 : Int32)))]) rfl (n := 255) rfl ?_
              rw [show ((2 : Int32) + (1 : Int32)) = (3 : Int32) from by decide]
              refine goto P d1_255 (n := 216) (by decide) ?_
              refine iload P d1_216 rfl (n := 218) rfl ?_
              refine aloadN P d1_218 rfl rfl (n := 219) rfl ?_
              refine getF P d1_219 (hw _ (List.mem_of_getElem? (i := 36) rfl)) G_columns (n := 222) rfl ?_
              intro T P
              refine icmp_ge P d1_222 (n' := 258) (n := 225) (by decide) rfl (fun hc222 => ?_) (fun hc222 => ?_)
              · -- pc 222 taken
                replace hc222 : (3 : Int) ≤ (3 : Int) := hc222
                refine retV P d1_258 (by decide) (by decide) ?_
                exact ⟨rfl, b63, b69, b75, b81, b87, b113, (ovr (ovr (ovr (fun _ => (0 : UInt64)) 0 (gu 0)) 1 (gu 1)) 2 (gu 2)), ⟨E_a, G_columns, G_cost, G_lower, G_upper, G_value, G_columnPlace, G_reduced, A_b63, A_b69, A_b75, A_b81, A_b87, A_b113, lo_b69, lo_b75, lo_b81, ne_b69_b75, ne_b69_b81, ne_b75_b81, ne_b63_b69, ne_b63_b75, ne_b63_b81, (Ne.symm ne_b69_b87), (Ne.symm ne_b75_b87), (Ne.symm ne_b81_b87), (Ne.symm ne_b69_b113), (Ne.symm ne_b75_b113), (Ne.symm ne_b81_b113), ne_a_b69, ne_a_b75, ne_a_b81⟩, (show (gu 0) = own_pick (gc 0) (gl 0) (gu 0) from (if_neg (Int.not_lt.mpr hp0)).symm), (show (gu 1) = own_pick (gc 1) (gl 1) (gu 1) from (if_neg (Int.not_lt.mpr hp1)).symm), (show (gu 2) = own_pick (gc 2) (gl 2) (gu 2) from (if_neg (Int.not_lt.mpr hp2)).symm)⟩
              · -- pc 222 not taken
                replace hc222 : (3 : Int) < (3 : Int) := hc222
                exact absurd hc222 (by decide)
theorem d4_0 : decode prog_4_method_5_code 0 = .ok (.aload_n 0, 1) := by decide +kernel
theorem d4_1 : decode prog_4_method_5_code 1 = .ok (.getfield 57, 3) := by decide +kernel
theorem d4_4 : decode prog_4_method_5_code 4 = .ok (.iload_n 1, 1) := by decide +kernel
theorem d4_5 : decode prog_4_method_5_code 5 = .ok (.dload_n 2, 1) := by decide +kernel
theorem d4_6 : decode prog_4_method_5_code 6 = .ok (.dastore, 1) := by decide +kernel
theorem d4_7 : decode prog_4_method_5_code 7 = .ok (.aload_n 0, 1) := by decide +kernel
theorem d4_8 : decode prog_4_method_5_code 8 = .ok (.getfield 60, 3) := by decide +kernel
theorem d4_11 : decode prog_4_method_5_code 11 = .ok (.iload_n 1, 1) := by decide +kernel
theorem d4_12 : decode prog_4_method_5_code 12 = .ok (.dload 4, 2) := by decide +kernel
theorem d4_14 : decode prog_4_method_5_code 14 = .ok (.dastore, 1) := by decide +kernel
theorem d4_15 : decode prog_4_method_5_code 15 = .ok (.aload_n 0, 1) := by decide +kernel
theorem d4_16 : decode prog_4_method_5_code 16 = .ok (.getfield 66, 3) := by decide +kernel
theorem d4_19 : decode prog_4_method_5_code 19 = .ok (.iload_n 1, 1) := by decide +kernel
theorem d4_20 : decode prog_4_method_5_code 20 = .ok (.iaload, 1) := by decide +kernel
theorem d4_21 : decode prog_4_method_5_code 21 = .ok (.ifCond .ge 48, 3) := by decide +kernel
theorem d4_24 : decode prog_4_method_5_code 24 = .ok (.aload_n 0, 1) := by decide +kernel
theorem d4_25 : decode prog_4_method_5_code 25 = .ok (.getfield 63, 3) := by decide +kernel
theorem d4_28 : decode prog_4_method_5_code 28 = .ok (.iload_n 1, 1) := by decide +kernel
theorem d4_29 : decode prog_4_method_5_code 29 = .ok (.aload_n 0, 1) := by decide +kernel
theorem d4_30 : decode prog_4_method_5_code 30 = .ok (.getfield 85, 3) := by decide +kernel
theorem d4_33 : decode prog_4_method_5_code 33 = .ok (.iload_n 1, 1) := by decide +kernel
theorem d4_34 : decode prog_4_method_5_code 34 = .ok (.daload, 1) := by decide +kernel
theorem d4_35 : decode prog_4_method_5_code 35 = .ok (.dconst 0, 1) := by decide +kernel
theorem d4_36 : decode prog_4_method_5_code 36 = .ok (.dcmp .l, 1) := by decide +kernel
theorem d4_37 : decode prog_4_method_5_code 37 = .ok (.ifCond .gt 25, 3) := by decide +kernel
theorem d4_40 : decode prog_4_method_5_code 40 = .ok (.aload_n 0, 1) := by decide +kernel
theorem d4_41 : decode prog_4_method_5_code 41 = .ok (.getfield 85, 3) := by decide +kernel
theorem d4_44 : decode prog_4_method_5_code 44 = .ok (.iload_n 1, 1) := by decide +kernel
theorem d4_45 : decode prog_4_method_5_code 45 = .ok (.daload, 1) := by decide +kernel
theorem d4_46 : decode prog_4_method_5_code 46 = .ok (.dconst 0, 1) := by decide +kernel
theorem d4_47 : decode prog_4_method_5_code 47 = .ok (.dcmp .l, 1) := by decide +kernel
theorem d4_48 : decode prog_4_method_5_code 48 = .ok (.ifCond .ne 19, 3) := by decide +kernel
theorem d4_51 : decode prog_4_method_5_code 51 = .ok (.aload_n 0, 1) := by decide +kernel
theorem d4_52 : decode prog_4_method_5_code 52 = .ok (.getfield 54, 3) := by decide +kernel
theorem d4_55 : decode prog_4_method_5_code 55 = .ok (.iload_n 1, 1) := by decide +kernel
theorem d4_56 : decode prog_4_method_5_code 56 = .ok (.daload, 1) := by decide +kernel
theorem d4_57 : decode prog_4_method_5_code 57 = .ok (.dconst 0, 1) := by decide +kernel
theorem d4_58 : decode prog_4_method_5_code 58 = .ok (.dcmp .l, 1) := by decide +kernel
theorem d4_59 : decode prog_4_method_5_code 59 = .ok (.ifCond .lt 8, 3) := by decide +kernel
theorem d4_62 : decode prog_4_method_5_code 62 = .ok (.dload 4, 2) := by decide +kernel
theorem d4_64 : decode prog_4_method_5_code 64 = .ok (.goto 4, 3) := by decide +kernel
theorem d4_67 : decode prog_4_method_5_code 67 = .ok (.dload_n 2, 1) := by decide +kernel
theorem d4_68 : decode prog_4_method_5_code 68 = .ok (.dastore, 1) := by decide +kernel
theorem d4_69 : decode prog_4_method_5_code 69 = .ok (.return_, 1) := by decide +kernel
theorem ef_4 (m : MethodId) (a : Addr) (u : Int32) (xl : UInt64) (xu : UInt64) : entryFrame m #[(.ref a), (.int u), (.double xl), (.double xu)] 6 = mkF m 0 #[.val (.ref a), .val (.int u), .val (.double xl), .second, .val (.double xu), .second] [] := by first | (simp [entryFrame, mkF, argsToLocals, Value.category]; done) | rfl
abbrev rm_c_set : Room := { frames := 0, cells := 0, slots := 0, locals := 0 }
set_option maxRecDepth 65536 in
set_option maxHeartbeats 40000000 in
theorem c_set (l : Launch) (Z : State) (a0 : Array Value) (hw : ∀ d ∈ tables_1, d.before a0 Z = true) (a : Addr) (u : Int32) (xl : UInt64) (xu : UInt64) (kc kl ku kv kp kr : Addr) (gc gl gu gv : Nat → UInt64) (h0 : Heap) (n0 : Nat) (low : n0 ≤ h0.size) (S9 : own_S Z n0 h0 a kc kl ku kv kp kr gc gl gu gv) (hu : u.toInt = 0) :
    Meth l Z (⟨"com/example/hertzbid/hertzbid/mechanisms/DualSimplex", "setBounds", "(IDD)V"⟩ : MethodName) prog_4_method_5_code 6 none rm_c_set #[(.ref a), (.int u), (.double xl), (.double xu)] h0 n0 (fun v h => v = none ∧ ∃ (gl' gu' gv' : Nat → UInt64), own_S Z n0 h a kc kl ku kv kp kr gc gl' gu' gv' ∧ gv' 0 = own_pick (gc 0) xl xu ∧ gv' 1 = gv 1 ∧ gv' 2 = gv 2) := by
  refine Meth.of (plainFor_of_name pn_1) low ?_
  intro p e s m args below meth c T P
  refine Ends.cast (ef_4 m a u xl xu) ?_
  obtain ⟨E_a, F_n, F_c, F_l, F_u, F_v, F_q, F_r, A_c, A_l, A_u, A_v, A_q, A_r, lo_l, lo_u, lo_v, n_kl_ku, n_kl_kv, n_ku_kv, n_kc_kl, n_kc_ku, n_kc_kv, n_kp_kl, n_kp_ku, n_kp_kv, n_kr_kl, n_kr_ku, n_kr_kv, n_a_kl, n_a_ku, n_a_kv⟩ := S9
  refine aloadN P d4_0 rfl rfl (n := 1) rfl ?_
  refine getF P d4_1 (hw _ (List.mem_of_getElem? (i := 48) rfl)) F_l (n := 4) rfl ?_
  intro T P
  refine iloadN P d4_4 rfl (n := 5) rfl ?_
  refine dloadN P d4_5 rfl (n := 6) rfl ?_
  refine stD P d4_6 A_l (u := 0) ⟨hu, by decide⟩ lo_l (n := 7) rfl ?_
  intro T h1 P W2
  replace E_a := Exa.wr W2 E_a
  replace F_n := Fld.other W2 F_n (Or.inl n_a_kl)
  replace F_c := Fld.other W2 F_c (Or.inl n_a_kl)
  replace F_l := Fld.other W2 F_l (Or.inl n_a_kl)
  replace F_u := Fld.other W2 F_u (Or.inl n_a_kl)
  replace F_v := Fld.other W2 F_v (Or.inl n_a_kl)
  replace F_q := Fld.other W2 F_q (Or.inl n_a_kl)
  replace F_r := Fld.other W2 F_r (Or.inl n_a_kl)
  replace A_c := A_c.other W2 n_kc_kl
  replace A_u := A_u.other W2 (Ne.symm n_kl_ku)
  replace A_v := A_v.other W2 (Ne.symm n_kl_kv)
  replace A_q := A_q.other W2 n_kp_kl
  replace A_r := A_r.other W2 n_kr_kl
  replace A_l := ARD.set A_l W2
  refine aloadN P d4_7 rfl rfl (n := 8) rfl ?_
  refine getF P d4_8 (hw _ (List.mem_of_getElem? (i := 50) rfl)) F_u (n := 11) rfl ?_
  intro T P
  refine iloadN P d4_11 rfl (n := 12) rfl ?_
  refine dload P d4_12 rfl (n := 14) rfl ?_
  refine stD P d4_14 A_u (u := 0) ⟨hu, by decide⟩ lo_u (n := 15) rfl ?_
  intro T h3 P W4
  replace E_a := Exa.wr W4 E_a
  replace F_n := Fld.other W4 F_n (Or.inl n_a_ku)
  replace F_c := Fld.other W4 F_c (Or.inl n_a_ku)
  replace F_l := Fld.other W4 F_l (Or.inl n_a_ku)
  replace F_u := Fld.other W4 F_u (Or.inl n_a_ku)
  replace F_v := Fld.other W4 F_v (Or.inl n_a_ku)
  replace F_q := Fld.other W4 F_q (Or.inl n_a_ku)
  replace F_r := Fld.other W4 F_r (Or.inl n_a_ku)
  replace A_c := A_c.other W4 n_kc_ku
  replace A_l := A_l.other W4 n_kl_ku
  replace A_v := A_v.other W4 (Ne.symm n_ku_kv)
  replace A_q := A_q.other W4 n_kp_ku
  replace A_r := A_r.other W4 n_kr_ku
  replace A_u := ARD.set A_u W4
  refine aloadN P d4_15 rfl rfl (n := 16) rfl ?_
  refine getF P d4_16 (hw _ (List.mem_of_getElem? (i := 54) rfl)) F_q (n := 19) rfl ?_
  intro T P
  refine iloadN P d4_19 rfl (n := 20) rfl ?_
  refine ialoadI P d4_20 A_q (u := 0) ⟨hu, by decide⟩ (n := 21) rfl ?_
  refine if0_ge P d4_21 (n' := 69) (n := 24) (by decide) rfl (fun hc21 => ?_) (fun hc21 => ?_)
  · -- pc 21 taken
    replace hc21 : (0 : Int) ≤ ((fun _ => (-1 : Int32)) 0).toInt := hc21
    exact absurd hc21 (by decide)
  · -- pc 21 not taken
    replace hc21 : ((fun _ => (-1 : Int32)) 0).toInt < (0 : Int) := hc21
    refine aloadN P d4_24 rfl rfl (n := 25) rfl ?_
    refine getF P d4_25 (hw _ (List.mem_of_getElem? (i := 52) rfl)) F_v (n := 28) rfl ?_
    intro T P
    refine iloadN P d4_28 rfl (n := 29) rfl ?_
    refine aloadN P d4_29 rfl rfl (n := 30) rfl ?_
    refine getF P d4_30 (hw _ (List.mem_of_getElem? (i := 67) rfl)) F_r (n := 33) rfl ?_
    intro T P
    refine iloadN P d4_33 rfl (n := 34) rfl ?_
    refine daloadD P d4_34 A_r (u := 0) ⟨hu, by decide⟩ (n := 35) rfl ?_
    refine dconst0 P d4_35 (n := 36) rfl ?_
    refine dcmp P d4_36 (v := (0 : Int32)) (by decide +kernel) (n := 37) rfl ?_
    refine if0_gt P d4_37 (n' := 62) (n := 40) (by decide) rfl (fun hc37 => ?_) (fun hc37 => ?_)
    · -- pc 37 taken
      replace hc37 : (0 : Int) < (0 : Int) := hc37
      exact absurd hc37 (by decide)
    · -- pc 37 not taken
      replace hc37 : (0 : Int) ≤ (0 : Int) := hc37
      refine aloadN P d4_40 rfl rfl (n := 41) rfl ?_
      refine getF P d4_41 (hw _ (List.mem_of_getElem? (i := 67) rfl)) F_r (n := 44) rfl ?_
      intro T P
      refine iloadN P d4_44 rfl (n := 45) rfl ?_
      refine daloadD P d4_45 A_r (u := 0) ⟨hu, by decide⟩ (n := 46) rfl ?_
      refine dconst0 P d4_46 (n := 47) rfl ?_
      refine dcmp P d4_47 (v := (0 : Int32)) (by decide +kernel) (n := 48) rfl ?_
      refine if0_ne P d4_48 (n' := 67) (n := 51) (by decide) rfl (fun hc48 => ?_) (fun hc48 => ?_)
      · -- pc 48 taken
        replace hc48 : ¬ (0 : Int) = (0 : Int) := hc48
        exact absurd hc48 (by decide)
      · -- pc 48 not taken
        replace hc48 : (0 : Int) = (0 : Int) := hc48
        refine aloadN P d4_51 rfl rfl (n := 52) rfl ?_
        refine getF P d4_52 (hw _ (List.mem_of_getElem? (i := 46) rfl)) F_c (n := 55) rfl ?_
        intro T P
        refine iloadN P d4_55 rfl (n := 56) rfl ?_
        refine daloadD P d4_56 A_c (u := 0) ⟨hu, by decide⟩ (n := 57) rfl ?_
        refine dconst0 P d4_57 (n := 58) rfl ?_
        refine dcmp P d4_58 (v := (own_v (gc 0))) rfl (n := 59) rfl ?_
        refine if0_lt P d4_59 (n' := 67) (n := 62) (by decide) rfl (fun hc59 => ?_) (fun hc59 => ?_)
        · -- pc 59 taken
          replace hc59 : (own_v (gc 0)).toInt < (0 : Int) := hc59
          refine dloadN P d4_67 rfl (n := 68) rfl ?_
          refine stD P d4_68 A_v (u := 0) ⟨hu, by decide⟩ lo_v (n := 69) rfl ?_
          intro T h5 P W6
          replace E_a := Exa.wr W6 E_a
          replace F_n := Fld.other W6 F_n (Or.inl n_a_kv)
          replace F_c := Fld.other W6 F_c (Or.inl n_a_kv)
          replace F_l := Fld.other W6 F_l (Or.inl n_a_kv)
          replace F_u := Fld.other W6 F_u (Or.inl n_a_kv)
          replace F_v := Fld.other W6 F_v (Or.inl n_a_kv)
          replace F_q := Fld.other W6 F_q (Or.inl n_a_kv)
          replace F_r := Fld.other W6 F_r (Or.inl n_a_kv)
          replace A_c := A_c.other W6 n_kc_kv
          replace A_l := A_l.other W6 n_kl_kv
          replace A_u := A_u.other W6 n_ku_kv
          replace A_q := A_q.other W6 n_kp_kv
          replace A_r := A_r.other W6 n_kr_kv
          replace A_v := ARD.set A_v W6
          refine retV P d4_69 (by decide) (by decide) ?_
          refine ⟨rfl, _, _, _, ⟨E_a, F_n, F_c, F_l, F_u, F_v, F_q, F_r, A_c, A_l, A_u, A_v, A_q, A_r, lo_l, lo_u, lo_v, n_kl_ku, n_kl_kv, n_ku_kv, n_kc_kl, n_kc_ku, n_kc_kv, n_kp_kl, n_kp_ku, n_kp_kv, n_kr_kl, n_kr_ku, n_kr_kv, n_a_kl, n_a_ku, n_a_kv⟩, ?_, ?_, ?_⟩
          · show xl = own_pick (gc 0) xl xu
            exact (if_pos hc59).symm
          · rfl
          · rfl
        · -- pc 59 not taken
          replace hc59 : (0 : Int) ≤ (own_v (gc 0)).toInt := hc59
          refine dload P d4_62 rfl (n := 64) rfl ?_
          refine goto P d4_64 (n := 68) (by decide) ?_
          refine stD P d4_68 A_v (u := 0) ⟨hu, by decide⟩ lo_v (n := 69) rfl ?_
          intro T h7 P W8
          replace E_a := Exa.wr W8 E_a
          replace F_n := Fld.other W8 F_n (Or.inl n_a_kv)
          replace F_c := Fld.other W8 F_c (Or.inl n_a_kv)
          replace F_l := Fld.other W8 F_l (Or.inl n_a_kv)
          replace F_u := Fld.other W8 F_u (Or.inl n_a_kv)
          replace F_v := Fld.other W8 F_v (Or.inl n_a_kv)
          replace F_q := Fld.other W8 F_q (Or.inl n_a_kv)
          replace F_r := Fld.other W8 F_r (Or.inl n_a_kv)
          replace A_c := A_c.other W8 n_kc_kv
          replace A_l := A_l.other W8 n_kl_kv
          replace A_u := A_u.other W8 n_ku_kv
          replace A_q := A_q.other W8 n_kp_kv
          replace A_r := A_r.other W8 n_kr_kv
          replace A_v := ARD.set A_v W8
          refine retV P d4_69 (by decide) (by decide) ?_
          refine ⟨rfl, _, _, _, ⟨E_a, F_n, F_c, F_l, F_u, F_v, F_q, F_r, A_c, A_l, A_u, A_v, A_q, A_r, lo_l, lo_u, lo_v, n_kl_ku, n_kl_kv, n_ku_kv, n_kc_kl, n_kc_ku, n_kc_kv, n_kp_kl, n_kp_ku, n_kp_kv, n_kr_kl, n_kr_ku, n_kr_kv, n_a_kl, n_a_ku, n_a_kv⟩, ?_, ?_, ?_⟩
          · show xu = own_pick (gc 0) xl xu
            exact (if_neg (Int.not_lt.mpr hc59)).symm
          · rfl
          · rfl
theorem d5_0 : decode prog_4_method_10_code 0 = .ok (.dconst 0, 1) := by decide +kernel
theorem d5_1 : decode prog_4_method_10_code 1 = .ok (.dstore_n 1, 1) := by decide +kernel
theorem d5_2 : decode prog_4_method_10_code 2 = .ok (.iconst 0, 1) := by decide +kernel
theorem d5_3 : decode prog_4_method_10_code 3 = .ok (.istore_n 3, 1) := by decide +kernel
theorem d5_4 : decode prog_4_method_10_code 4 = .ok (.iload_n 3, 1) := by decide +kernel
theorem d5_5 : decode prog_4_method_10_code 5 = .ok (.aload_n 0, 1) := by decide +kernel
theorem d5_6 : decode prog_4_method_10_code 6 = .ok (.getfield 46, 3) := by decide +kernel
theorem d5_9 : decode prog_4_method_10_code 9 = .ok (.if_icmp .ge 25, 3) := by decide +kernel
theorem d5_12 : decode prog_4_method_10_code 12 = .ok (.dload_n 1, 1) := by decide +kernel
theorem d5_13 : decode prog_4_method_10_code 13 = .ok (.aload_n 0, 1) := by decide +kernel
theorem d5_14 : decode prog_4_method_10_code 14 = .ok (.getfield 54, 3) := by decide +kernel
theorem d5_17 : decode prog_4_method_10_code 17 = .ok (.iload_n 3, 1) := by decide +kernel
theorem d5_18 : decode prog_4_method_10_code 18 = .ok (.daload, 1) := by decide +kernel
theorem d5_19 : decode prog_4_method_10_code 19 = .ok (.aload_n 0, 1) := by decide +kernel
theorem d5_20 : decode prog_4_method_10_code 20 = .ok (.getfield 63, 3) := by decide +kernel
theorem d5_23 : decode prog_4_method_10_code 23 = .ok (.iload_n 3, 1) := by decide +kernel
theorem d5_24 : decode prog_4_method_10_code 24 = .ok (.daload, 1) := by decide +kernel
theorem d5_25 : decode prog_4_method_10_code 25 = .ok (.dmul, 1) := by decide +kernel
theorem d5_26 : decode prog_4_method_10_code 26 = .ok (.dadd, 1) := by decide +kernel
theorem d5_27 : decode prog_4_method_10_code 27 = .ok (.dstore_n 1, 1) := by decide +kernel
theorem d5_28 : decode prog_4_method_10_code 28 = .ok (.iinc 3 1, 3) := by decide +kernel
theorem d5_31 : decode prog_4_method_10_code 31 = .ok (.goto (-27), 3) := by decide +kernel
theorem d5_34 : decode prog_4_method_10_code 34 = .ok (.dload_n 1, 1) := by decide +kernel
theorem d5_35 : decode prog_4_method_10_code 35 = .ok (.dreturn, 1) := by decide +kernel
theorem ef_5 (m : MethodId) (a : Addr) : entryFrame m #[(.ref a)] 4 = mkF m 0 #[.val (.ref a), .unset, .unset, .unset] [] := by first | (simp [entryFrame, mkF, argsToLocals, Value.category]; done) | rfl
abbrev rm_c_obj : Room := { frames := 0, cells := 0, slots := 0, locals := 0 }
set_option maxRecDepth 65536 in
set_option maxHeartbeats 40000000 in
theorem c_obj (l : Launch) (Z : State) (a0 : Array Value) (hw : ∀ d ∈ tables_1, d.before a0 Z = true) (a : Addr) (kc kl ku kv kp kr : Addr) (gc gl gu gv : Nat → UInt64) (h0 : Heap) (n0 : Nat) (low : n0 ≤ h0.size) (S9 : own_S Z n0 h0 a kc kl ku kv kp kr gc gl gu gv) (hc0 : own_B (gc 0)) (hc1 : own_B (gc 1)) (hc2 : own_B (gc 2)) (hb0 : own_B (gv 0)) (hb1 : own_B (gv 1)) (hb2 : own_B (gv 2)) :
    Meth l Z (⟨"com/example/hertzbid/hertzbid/mechanisms/DualSimplex", "objective", "()D"⟩ : MethodName) prog_4_method_10_code 4 (some .double) rm_c_obj #[(.ref a)] h0 n0 (Ret (.double (own_ob (gc 0) (gv 0) (gc 1) (gv 1) (gc 2) (gv 2))) h0) := by
  refine Meth.of (plainFor_of_name pn_1) low ?_
  intro p e s m args below meth c T P
  refine Ends.cast (ef_5 m a) ?_
  obtain ⟨E_a, F_n, F_c, F_l, F_u, F_v, F_q, F_r, A_c, A_l, A_u, A_v, A_q, A_r, lo_l, lo_u, lo_v, n_kl_ku, n_kl_kv, n_ku_kv, n_kc_kl, n_kc_ku, n_kc_kv, n_kp_kl, n_kp_ku, n_kp_kv, n_kr_kl, n_kr_ku, n_kr_kv, n_a_kl, n_a_ku, n_a_kv⟩ := S9
  refine dconst0 P d5_0 (n := 1) rfl ?_
  refine dstoreN P d5_1 (l' := #[.val (.ref a), .val (.double (0 : UInt64)), .second, .unset]) rfl (n := 2) rfl ?_
  refine iconst P d5_2 (x := (0 : Int32)) rfl (n := 3) rfl ?_
  refine istoreN P d5_3 (l' := #[.val (.ref a), .val (.double (0 : UInt64)), .second, .val (.int (0 : Int32))]) rfl (n := 4) rfl ?_
  refine iloadN P d5_4 rfl (n := 5) rfl ?_
  refine aloadN P d5_5 rfl rfl (n := 6) rfl ?_
  refine getF P d5_6 (hw _ (List.mem_of_getElem? (i := 36) rfl)) F_n (n := 9) rfl ?_
  intro T P
  refine icmp_ge P d5_9 (n' := 34) (n := 12) (by decide) rfl (fun hc9 => ?_) (fun hc9 => ?_)
  · -- pc 9 taken
    replace hc9 : (3 : Int) ≤ (0 : Int) := hc9
    exact absurd hc9 (by decide)
  · -- pc 9 not taken
    replace hc9 : (0 : Int) < (3 : Int) := hc9
    refine dloadN P d5_12 rfl (n := 13) rfl ?_
    refine aloadN P d5_13 rfl rfl (n := 14) rfl ?_
    refine getF P d5_14 (hw _ (List.mem_of_getElem? (i := 46) rfl)) F_c (n := 17) rfl ?_
    intro T P
    refine iloadN P d5_17 rfl (n := 18) rfl ?_
    refine daloadD P d5_18 A_c (u := 0) ⟨rfl, by decide⟩ (n := 19) rfl ?_
    refine aloadN P d5_19 rfl rfl (n := 20) rfl ?_
    refine getF P d5_20 (hw _ (List.mem_of_getElem? (i := 52) rfl)) F_v (n := 23) rfl ?_
    intro T P
    refine iloadN P d5_23 rfl (n := 24) rfl ?_
    refine daloadD P d5_24 A_v (u := 0) ⟨rfl, by decide⟩ (n := 25) rfl ?_
    refine dmul P d5_25 (own_nm (hc0) (hb0)) (n := 26) rfl ?_
    refine dadd P d5_26 (own_all hc0 hb0 hc1 hb1 hc2 hb2).1.1 (n := 27) rfl ?_
    refine dstoreN P d5_27 (l' := #[.val (.ref a), .val (.double (FP.dadd (0 : UInt64) (FP.dmul (gc 0) (gv 0)))), .second, .val (.int (0 : Int32))]) rfl (n := 28) rfl ?_
    refine iinc P d5_28 (x := (0 : Int32)) (y := (1 : Int32)) rfl rfl (l' := #[.val (.ref a), .val (.double (FP.dadd (0 : UInt64) (FP.dmul (gc 0) (gv 0)))), .second, .val (.int ((0 : Int32) + (1 : Int32)))]) rfl (n := 31) rfl ?_
    rw [show ((0 : Int32) + (1 : Int32)) = (1 : Int32) from by decide]
    refine goto P d5_31 (n := 4) (by decide) ?_
    refine iloadN P d5_4 rfl (n := 5) rfl ?_
    refine aloadN P d5_5 rfl rfl (n := 6) rfl ?_
    refine getF P d5_6 (hw _ (List.mem_of_getElem? (i := 36) rfl)) F_n (n := 9) rfl ?_
    intro T P
    refine icmp_ge P d5_9 (n' := 34) (n := 12) (by decide) rfl (fun hc9 => ?_) (fun hc9 => ?_)
    · -- pc 9 taken
      replace hc9 : (3 : Int) ≤ (1 : Int) := hc9
      exact absurd hc9 (by decide)
    · -- pc 9 not taken
      replace hc9 : (1 : Int) < (3 : Int) := hc9
      refine dloadN P d5_12 rfl (n := 13) rfl ?_
      refine aloadN P d5_13 rfl rfl (n := 14) rfl ?_
      refine getF P d5_14 (hw _ (List.mem_of_getElem? (i := 46) rfl)) F_c (n := 17) rfl ?_
      intro T P
      refine iloadN P d5_17 rfl (n := 18) rfl ?_
      refine daloadD P d5_18 A_c (u := 1) ⟨rfl, by decide⟩ (n := 19) rfl ?_
      refine aloadN P d5_19 rfl rfl (n := 20) rfl ?_
      refine getF P d5_20 (hw _ (List.mem_of_getElem? (i := 52) rfl)) F_v (n := 23) rfl ?_
      intro T P
      refine iloadN P d5_23 rfl (n := 24) rfl ?_
      refine daloadD P d5_24 A_v (u := 1) ⟨rfl, by decide⟩ (n := 25) rfl ?_
      refine dmul P d5_25 (own_nm (hc1) (hb1)) (n := 26) rfl ?_
      refine dadd P d5_26 (own_all hc0 hb0 hc1 hb1 hc2 hb2).1.2.1 (n := 27) rfl ?_
      refine dstoreN P d5_27 (l' := #[.val (.ref a), .val (.double (FP.dadd (FP.dadd (0 : UInt64) (FP.dmul (gc 0) (gv 0))) (FP.dmul (gc 1) (gv 1)))), .second, .val (.int (1 : Int32))]) rfl (n := 28) rfl ?_
      refine iinc P d5_28 (x := (1 : Int32)) (y := (1 : Int32)) rfl rfl (l' := #[.val (.ref a), .val (.double (FP.dadd (FP.dadd (0 : UInt64) (FP.dmul (gc 0) (gv 0))) (FP.dmul (gc 1) (gv 1)))), .second, .val (.int ((1 : Int32) + (1 : Int32)))]) rfl (n := 31) rfl ?_
      rw [show ((1 : Int32) + (1 : Int32)) = (2 : Int32) from by decide]
      refine goto P d5_31 (n := 4) (by decide) ?_
      refine iloadN P d5_4 rfl (n := 5) rfl ?_
      refine aloadN P d5_5 rfl rfl (n := 6) rfl ?_
      refine getF P d5_6 (hw _ (List.mem_of_getElem? (i := 36) rfl)) F_n (n := 9) rfl ?_
      intro T P
      refine icmp_ge P d5_9 (n' := 34) (n := 12) (by decide) rfl (fun hc9 => ?_) (fun hc9 => ?_)
      · -- pc 9 taken
        replace hc9 : (3 : Int) ≤ (2 : Int) := hc9
        exact absurd hc9 (by decide)
      · -- pc 9 not taken
        replace hc9 : (2 : Int) < (3 : Int) := hc9
        refine dloadN P d5_12 rfl (n := 13) rfl ?_
        refine aloadN P d5_13 rfl rfl (n := 14) rfl ?_
        refine getF P d5_14 (hw _ (List.mem_of_getElem? (i := 46) rfl)) F_c (n := 17) rfl ?_
        intro T P
        refine iloadN P d5_17 rfl (n := 18) rfl ?_
        refine daloadD P d5_18 A_c (u := 2) ⟨rfl, by decide⟩ (n := 19) rfl ?_
        refine aloadN P d5_19 rfl rfl (n := 20) rfl ?_
        refine getF P d5_20 (hw _ (List.mem_of_getElem? (i := 52) rfl)) F_v (n := 23) rfl ?_
        intro T P
        refine iloadN P d5_23 rfl (n := 24) rfl ?_
        refine daloadD P d5_24 A_v (u := 2) ⟨rfl, by decide⟩ (n := 25) rfl ?_
        refine dmul P d5_25 (own_nm (hc2) (hb2)) (n := 26) rfl ?_
        refine dadd P d5_26 (own_all hc0 hb0 hc1 hb1 hc2 hb2).1.2.2 (n := 27) rfl ?_
        refine dstoreN P d5_27 (l' := #[.val (.ref a), .val (.double (FP.dadd (FP.dadd (FP.dadd (0 : UInt64) (FP.dmul (gc 0) (gv 0))) (FP.dmul (gc 1) (gv 1))) (FP.dmul (gc 2) (gv 2)))), .second, .val (.int (2 : Int32))]) rfl (n := 28) rfl ?_
        refine iinc P d5_28 (x := (2 : Int32)) (y := (1 : Int32)) rfl rfl (l' := #[.val (.ref a), .val (.double (FP.dadd (FP.dadd (FP.dadd (0 : UInt64) (FP.dmul (gc 0) (gv 0))) (FP.dmul (gc 1) (gv 1))) (FP.dmul (gc 2) (gv 2)))), .second, .val (.int ((2 : Int32) + (1 : Int32)))]) rfl (n := 31) rfl ?_
        rw [show ((2 : Int32) + (1 : Int32)) = (3 : Int32) from by decide]
        refine goto P d5_31 (n := 4) (by decide) ?_
        refine iloadN P d5_4 rfl (n := 5) rfl ?_
        refine aloadN P d5_5 rfl rfl (n := 6) rfl ?_
        refine getF P d5_6 (hw _ (List.mem_of_getElem? (i := 36) rfl)) F_n (n := 9) rfl ?_
        intro T P
        refine icmp_ge P d5_9 (n' := 34) (n := 12) (by decide) rfl (fun hc9 => ?_) (fun hc9 => ?_)
        · -- pc 9 taken
          replace hc9 : (3 : Int) ≤ (3 : Int) := hc9
          refine dloadN P d5_34 rfl (n := 35) rfl ?_
          refine retD P d5_35 (by decide) (by decide) ?_
          exact Ret.ofA rfl
        · -- pc 9 not taken
          replace hc9 : (3 : Int) < (3 : Int) := hc9
          exact absurd hc9 (by decide)
theorem ef_0 (m : MethodId) (p0 : Int32) (p1 : Int32) (p2 : Int32) (q : Int32) : entryFrame m #[(.int p0), (.int p1), (.int p2), (.int q)] maxLocals = mkF m 0 #[.val (.int p0), .val (.int p1), .val (.int p2), .val (.int q), .unset, .unset, .unset, .unset, .unset, .unset, .unset, .unset, .unset, .unset, .unset, .unset, .unset, .unset, .unset, .unset, .unset, .unset, .unset, .unset, .unset, .unset, .unset, .unset, .unset, .unset, .unset, .unset, .unset, .unset, .unset, .unset, .unset, .unset, .unset] [] := by first | (simp [entryFrame, mkF, argsToLocals, Value.category, maxLocals]; done) | rfl
theorem pn_2 : plainName "com/example/hertzbid/hertzbid/mechanisms/DualSimplexObjectivePinLaw" = true := by first | (simp [plainName, overriddenIn]; done) | decide +kernel
theorem pd_2 : parseMethodDescriptor "([D[D[D)V" = some ⟨[(.array .double), (.array .double), (.array .double)], none⟩ := by decide +kernel
theorem pd_3 : parseMethodDescriptor "(IDD)V" = some ⟨[.int, .double, .double], none⟩ := by decide +kernel
theorem pd_4 : parseMethodDescriptor "()D" = some ⟨[], some .double⟩ := by decide +kernel
set_option maxRecDepth 65536 in
set_option maxHeartbeats 40000000 in
theorem rm_law (l : Launch) (Z : State) (a0 : Array Value) (hw : ∀ d ∈ tables_1, d.before a0 Z = true) (p0 : Int32) (p1 : Int32) (p2 : Int32) (q : Int32)  (h0 : Heap) (n0 : Nat) (low : n0 ≤ h0.size)  :
    Meth l Z x code maxLocals ret room_1 #[(.int p0), (.int p1), (.int p2), (.int q)] h0 n0 (fun v _ => v = some (.int 1)) := by
  refine Meth.of (plainFor_of_name pn_2) low ?_
  intro p e s m args below meth c T P
  refine Ends.cast (ef_0 m p0 p1 p2 q) ?_
  refine iloadN P at_0 rfl (n := 1) rfl ?_
  refine i2b P at_1 (n := 2) rfl ?_
  refine i2d P at_2 (n := 3) rfl ?_
  refine dstore P at_3 (l' := #[.val (.int p0), .val (.int p1), .val (.int p2), .val (.int q), .val (.double (FP.i2d (p0.toInt8.toInt32))), .second, .unset, .unset, .unset, .unset, .unset, .unset, .unset, .unset, .unset, .unset, .unset, .unset, .unset, .unset, .unset, .unset, .unset, .unset, .unset, .unset, .unset, .unset, .unset, .unset, .unset, .unset, .unset, .unset, .unset, .unset, .unset, .unset, .unset]) rfl (n := 5) rfl ?_
  refine iloadN P at_5 rfl (n := 6) rfl ?_
  refine bipush P at_6 (x := (8 : Int32)) rfl (n := 8) rfl ?_
  refine ishr P at_8 (n := 9) rfl ?_
  refine i2b P at_9 (n := 10) rfl ?_
  refine i2d P at_10 (n := 11) rfl ?_
  refine dstore P at_11 (l' := #[.val (.int p0), .val (.int p1), .val (.int p2), .val (.int q), .val (.double (FP.i2d (p0.toInt8.toInt32))), .second, .val (.double (FP.i2d ((p0 >>> ((8 : Int32) &&& 31)).toInt8.toInt32))), .second, .unset, .unset, .unset, .unset, .unset, .unset, .unset, .unset, .unset, .unset, .unset, .unset, .unset, .unset, .unset, .unset, .unset, .unset, .unset, .unset, .unset, .unset, .unset, .unset, .unset, .unset, .unset, .unset, .unset, .unset, .unset]) rfl (n := 13) rfl ?_
  refine iloadN P at_13 rfl (n := 14) rfl ?_
  refine bipush P at_14 (x := (16 : Int32)) rfl (n := 16) rfl ?_
  refine ishr P at_16 (n := 17) rfl ?_
  refine i2b P at_17 (n := 18) rfl ?_
  refine i2d P at_18 (n := 19) rfl ?_
  refine dstore P at_19 (l' := #[.val (.int p0), .val (.int p1), .val (.int p2), .val (.int q), .val (.double (FP.i2d (p0.toInt8.toInt32))), .second, .val (.double (FP.i2d ((p0 >>> ((8 : Int32) &&& 31)).toInt8.toInt32))), .second, .val (.double (FP.i2d ((p0 >>> ((16 : Int32) &&& 31)).toInt8.toInt32))), .second, .unset, .unset, .unset, .unset, .unset, .unset, .unset, .unset, .unset, .unset, .unset, .unset, .unset, .unset, .unset, .unset, .unset, .unset, .unset, .unset, .unset, .unset, .unset, .unset, .unset, .unset, .unset, .unset, .unset]) rfl (n := 21) rfl ?_
  refine iloadN P at_21 rfl (n := 22) rfl ?_
  refine i2b P at_22 (n := 23) rfl ?_
  refine i2d P at_23 (n := 24) rfl ?_
  refine dstore P at_24 (l' := #[.val (.int p0), .val (.int p1), .val (.int p2), .val (.int q), .val (.double (FP.i2d (p0.toInt8.toInt32))), .second, .val (.double (FP.i2d ((p0 >>> ((8 : Int32) &&& 31)).toInt8.toInt32))), .second, .val (.double (FP.i2d ((p0 >>> ((16 : Int32) &&& 31)).toInt8.toInt32))), .second, .val (.double (FP.i2d (p1.toInt8.toInt32))), .second, .unset, .unset, .unset, .unset, .unset, .unset, .unset, .unset, .unset, .unset, .unset, .unset, .unset, .unset, .unset, .unset, .unset, .unset, .unset, .unset, .unset, .unset, .unset, .unset, .unset, .unset, .unset]) rfl (n := 26) rfl ?_
  refine iloadN P at_26 rfl (n := 27) rfl ?_
  refine bipush P at_27 (x := (8 : Int32)) rfl (n := 29) rfl ?_
  refine ishr P at_29 (n := 30) rfl ?_
  refine i2b P at_30 (n := 31) rfl ?_
  refine i2d P at_31 (n := 32) rfl ?_
  refine dstore P at_32 (l' := #[.val (.int p0), .val (.int p1), .val (.int p2), .val (.int q), .val (.double (FP.i2d (p0.toInt8.toInt32))), .second, .val (.double (FP.i2d ((p0 >>> ((8 : Int32) &&& 31)).toInt8.toInt32))), .second, .val (.double (FP.i2d ((p0 >>> ((16 : Int32) &&& 31)).toInt8.toInt32))), .second, .val (.double (FP.i2d (p1.toInt8.toInt32))), .second, .val (.double (FP.i2d ((p1 >>> ((8 : Int32) &&& 31)).toInt8.toInt32))), .second, .unset, .unset, .unset, .unset, .unset, .unset, .unset, .unset, .unset, .unset, .unset, .unset, .unset, .unset, .unset, .unset, .unset, .unset, .unset, .unset, .unset, .unset, .unset, .unset, .unset]) rfl (n := 34) rfl ?_
  refine iloadN P at_34 rfl (n := 35) rfl ?_
  refine bipush P at_35 (x := (16 : Int32)) rfl (n := 37) rfl ?_
  refine ishr P at_37 (n := 38) rfl ?_
  refine i2b P at_38 (n := 39) rfl ?_
  refine i2d P at_39 (n := 40) rfl ?_
  refine dstore P at_40 (l' := #[.val (.int p0), .val (.int p1), .val (.int p2), .val (.int q), .val (.double (FP.i2d (p0.toInt8.toInt32))), .second, .val (.double (FP.i2d ((p0 >>> ((8 : Int32) &&& 31)).toInt8.toInt32))), .second, .val (.double (FP.i2d ((p0 >>> ((16 : Int32) &&& 31)).toInt8.toInt32))), .second, .val (.double (FP.i2d (p1.toInt8.toInt32))), .second, .val (.double (FP.i2d ((p1 >>> ((8 : Int32) &&& 31)).toInt8.toInt32))), .second, .val (.double (FP.i2d ((p1 >>> ((16 : Int32) &&& 31)).toInt8.toInt32))), .second, .unset, .unset, .unset, .unset, .unset, .unset, .unset, .unset, .unset, .unset, .unset, .unset, .unset, .unset, .unset, .unset, .unset, .unset, .unset, .unset, .unset, .unset, .unset]) rfl (n := 42) rfl ?_
  refine iloadN P at_42 rfl (n := 43) rfl ?_
  refine i2b P at_43 (n := 44) rfl ?_
  refine i2d P at_44 (n := 45) rfl ?_
  refine dstore P at_45 (l' := #[.val (.int p0), .val (.int p1), .val (.int p2), .val (.int q), .val (.double (FP.i2d (p0.toInt8.toInt32))), .second, .val (.double (FP.i2d ((p0 >>> ((8 : Int32) &&& 31)).toInt8.toInt32))), .second, .val (.double (FP.i2d ((p0 >>> ((16 : Int32) &&& 31)).toInt8.toInt32))), .second, .val (.double (FP.i2d (p1.toInt8.toInt32))), .second, .val (.double (FP.i2d ((p1 >>> ((8 : Int32) &&& 31)).toInt8.toInt32))), .second, .val (.double (FP.i2d ((p1 >>> ((16 : Int32) &&& 31)).toInt8.toInt32))), .second, .val (.double (FP.i2d (p2.toInt8.toInt32))), .second, .unset, .unset, .unset, .unset, .unset, .unset, .unset, .unset, .unset, .unset, .unset, .unset, .unset, .unset, .unset, .unset, .unset, .unset, .unset, .unset, .unset]) rfl (n := 47) rfl ?_
  refine iloadN P at_47 rfl (n := 48) rfl ?_
  refine bipush P at_48 (x := (8 : Int32)) rfl (n := 50) rfl ?_
  refine ishr P at_50 (n := 51) rfl ?_
  refine i2b P at_51 (n := 52) rfl ?_
  refine i2d P at_52 (n := 53) rfl ?_
  refine dstore P at_53 (l' := #[.val (.int p0), .val (.int p1), .val (.int p2), .val (.int q), .val (.double (FP.i2d (p0.toInt8.toInt32))), .second, .val (.double (FP.i2d ((p0 >>> ((8 : Int32) &&& 31)).toInt8.toInt32))), .second, .val (.double (FP.i2d ((p0 >>> ((16 : Int32) &&& 31)).toInt8.toInt32))), .second, .val (.double (FP.i2d (p1.toInt8.toInt32))), .second, .val (.double (FP.i2d ((p1 >>> ((8 : Int32) &&& 31)).toInt8.toInt32))), .second, .val (.double (FP.i2d ((p1 >>> ((16 : Int32) &&& 31)).toInt8.toInt32))), .second, .val (.double (FP.i2d (p2.toInt8.toInt32))), .second, .val (.double (FP.i2d ((p2 >>> ((8 : Int32) &&& 31)).toInt8.toInt32))), .second, .unset, .unset, .unset, .unset, .unset, .unset, .unset, .unset, .unset, .unset, .unset, .unset, .unset, .unset, .unset, .unset, .unset, .unset, .unset]) rfl (n := 55) rfl ?_
  refine iloadN P at_55 rfl (n := 56) rfl ?_
  refine bipush P at_56 (x := (16 : Int32)) rfl (n := 58) rfl ?_
  refine ishr P at_58 (n := 59) rfl ?_
  refine i2b P at_59 (n := 60) rfl ?_
  refine i2d P at_60 (n := 61) rfl ?_
  refine dstore P at_61 (l' := #[.val (.int p0), .val (.int p1), .val (.int p2), .val (.int q), .val (.double (FP.i2d (p0.toInt8.toInt32))), .second, .val (.double (FP.i2d ((p0 >>> ((8 : Int32) &&& 31)).toInt8.toInt32))), .second, .val (.double (FP.i2d ((p0 >>> ((16 : Int32) &&& 31)).toInt8.toInt32))), .second, .val (.double (FP.i2d (p1.toInt8.toInt32))), .second, .val (.double (FP.i2d ((p1 >>> ((8 : Int32) &&& 31)).toInt8.toInt32))), .second, .val (.double (FP.i2d ((p1 >>> ((16 : Int32) &&& 31)).toInt8.toInt32))), .second, .val (.double (FP.i2d (p2.toInt8.toInt32))), .second, .val (.double (FP.i2d ((p2 >>> ((8 : Int32) &&& 31)).toInt8.toInt32))), .second, .val (.double (FP.i2d ((p2 >>> ((16 : Int32) &&& 31)).toInt8.toInt32))), .second, .unset, .unset, .unset, .unset, .unset, .unset, .unset, .unset, .unset, .unset, .unset, .unset, .unset, .unset, .unset, .unset, .unset]) rfl (n := 63) rfl ?_
  refine iloadN P at_63 rfl (n := 64) rfl ?_
  refine bipush P at_64 (x := (8 : Int32)) rfl (n := 66) rfl ?_
  refine ishr P at_66 (n := 67) rfl ?_
  refine i2b P at_67 (n := 68) rfl ?_
  refine i2d P at_68 (n := 69) rfl ?_
  refine dstore P at_69 (l' := #[.val (.int p0), .val (.int p1), .val (.int p2), .val (.int q), .val (.double (FP.i2d (p0.toInt8.toInt32))), .second, .val (.double (FP.i2d ((p0 >>> ((8 : Int32) &&& 31)).toInt8.toInt32))), .second, .val (.double (FP.i2d ((p0 >>> ((16 : Int32) &&& 31)).toInt8.toInt32))), .second, .val (.double (FP.i2d (p1.toInt8.toInt32))), .second, .val (.double (FP.i2d ((p1 >>> ((8 : Int32) &&& 31)).toInt8.toInt32))), .second, .val (.double (FP.i2d ((p1 >>> ((16 : Int32) &&& 31)).toInt8.toInt32))), .second, .val (.double (FP.i2d (p2.toInt8.toInt32))), .second, .val (.double (FP.i2d ((p2 >>> ((8 : Int32) &&& 31)).toInt8.toInt32))), .second, .val (.double (FP.i2d ((p2 >>> ((16 : Int32) &&& 31)).toInt8.toInt32))), .second, .val (.double (FP.i2d ((q >>> ((8 : Int32) &&& 31)).toInt8.toInt32))), .second, .unset, .unset, .unset, .unset, .unset, .unset, .unset, .unset, .unset, .unset, .unset, .unset, .unset, .unset, .unset]) rfl (n := 71) rfl ?_
  refine iloadN P at_71 rfl (n := 72) rfl ?_
  refine bipush P at_72 (x := (16 : Int32)) rfl (n := 74) rfl ?_
  refine ishr P at_74 (n := 75) rfl ?_
  refine i2b P at_75 (n := 76) rfl ?_
  refine i2d P at_76 (n := 77) rfl ?_
  refine dstore P at_77 (l' := #[.val (.int p0), .val (.int p1), .val (.int p2), .val (.int q), .val (.double (FP.i2d (p0.toInt8.toInt32))), .second, .val (.double (FP.i2d ((p0 >>> ((8 : Int32) &&& 31)).toInt8.toInt32))), .second, .val (.double (FP.i2d ((p0 >>> ((16 : Int32) &&& 31)).toInt8.toInt32))), .second, .val (.double (FP.i2d (p1.toInt8.toInt32))), .second, .val (.double (FP.i2d ((p1 >>> ((8 : Int32) &&& 31)).toInt8.toInt32))), .second, .val (.double (FP.i2d ((p1 >>> ((16 : Int32) &&& 31)).toInt8.toInt32))), .second, .val (.double (FP.i2d (p2.toInt8.toInt32))), .second, .val (.double (FP.i2d ((p2 >>> ((8 : Int32) &&& 31)).toInt8.toInt32))), .second, .val (.double (FP.i2d ((p2 >>> ((16 : Int32) &&& 31)).toInt8.toInt32))), .second, .val (.double (FP.i2d ((q >>> ((8 : Int32) &&& 31)).toInt8.toInt32))), .second, .val (.double (FP.i2d ((q >>> ((16 : Int32) &&& 31)).toInt8.toInt32))), .second, .unset, .unset, .unset, .unset, .unset, .unset, .unset, .unset, .unset, .unset, .unset, .unset, .unset]) rfl (n := 79) rfl ?_
  refine iloadN P at_79 rfl (n := 80) rfl ?_
  refine iconst P at_80 (x := (1 : Int32)) rfl (n := 81) rfl ?_
  refine iand P at_81 (n := 82) rfl ?_
  refine if0_eq P at_82 (n' := 89) (n := 85) (by decide) rfl (fun hc82 => ?_) (fun hc82 => ?_)
  · -- pc 82 taken
    replace hc82 : (q &&& (1 : Int32)).toInt = (0 : Int) := hc82
    refine iconst P at_89 (x := (0 : Int32)) rfl (n := 90) rfl ?_
    refine istore P at_90 (l' := #[.val (.int p0), .val (.int p1), .val (.int p2), .val (.int q), .val (.double (FP.i2d (p0.toInt8.toInt32))), .second, .val (.double (FP.i2d ((p0 >>> ((8 : Int32) &&& 31)).toInt8.toInt32))), .second, .val (.double (FP.i2d ((p0 >>> ((16 : Int32) &&& 31)).toInt8.toInt32))), .second, .val (.double (FP.i2d (p1.toInt8.toInt32))), .second, .val (.double (FP.i2d ((p1 >>> ((8 : Int32) &&& 31)).toInt8.toInt32))), .second, .val (.double (FP.i2d ((p1 >>> ((16 : Int32) &&& 31)).toInt8.toInt32))), .second, .val (.double (FP.i2d (p2.toInt8.toInt32))), .second, .val (.double (FP.i2d ((p2 >>> ((8 : Int32) &&& 31)).toInt8.toInt32))), .second, .val (.double (FP.i2d ((p2 >>> ((16 : Int32) &&& 31)).toInt8.toInt32))), .second, .val (.double (FP.i2d ((q >>> ((8 : Int32) &&& 31)).toInt8.toInt32))), .second, .val (.double (FP.i2d ((q >>> ((16 : Int32) &&& 31)).toInt8.toInt32))), .second, .val (.int (0 : Int32)), .unset, .unset, .unset, .unset, .unset, .unset, .unset, .unset, .unset, .unset, .unset, .unset]) rfl (n := 92) rfl ?_
    refine iconst P at_92 (x := (3 : Int32)) rfl (n := 93) rfl ?_
    refine newPE P at_93 (ad := "[D") (hw _ (List.mem_of_getElem? (i := 0) rfl)) (k := 3) (cap := 3) ⟨rfl, by decide⟩ (by decide) (by decide) (by decide) (n := 95) rfl ?_
    intro T h2 b1 P X3 g4 lo_b1 A_b1 E_b1
    replace A_b1 : ARD Z h2 b1 3 (fun _ => 0) := A_b1
    refine dup P at_95 rfl (n := 96) rfl ?_
    refine iconst P at_96 (x := (0 : Int32)) rfl (n := 97) rfl ?_
    refine dload P at_97 rfl (n := 99) rfl ?_
    refine stD P at_99 A_b1 (u := 0) ⟨rfl, by decide⟩ lo_b1 (n := 100) rfl ?_
    intro T h5 P W6
    replace E_b1 := Exa.wr W6 E_b1
    replace A_b1 := ARD.set A_b1 W6
    refine dup P at_100 rfl (n := 101) rfl ?_
    refine iconst P at_101 (x := (1 : Int32)) rfl (n := 102) rfl ?_
    refine dload P at_102 rfl (n := 104) rfl ?_
    refine stD P at_104 A_b1 (u := 1) ⟨rfl, by decide⟩ lo_b1 (n := 105) rfl ?_
    intro T h7 P W8
    replace E_b1 := Exa.wr W8 E_b1
    replace A_b1 := ARD.set A_b1 W8
    refine dup P at_105 rfl (n := 106) rfl ?_
    refine iconst P at_106 (x := (2 : Int32)) rfl (n := 107) rfl ?_
    refine dload P at_107 rfl (n := 109) rfl ?_
    refine stD P at_109 A_b1 (u := 2) ⟨rfl, by decide⟩ lo_b1 (n := 110) rfl ?_
    intro T h9 P W10
    replace E_b1 := Exa.wr W10 E_b1
    replace A_b1 := ARD.set A_b1 W10
    refine astore P at_110 rfl (l' := #[.val (.int p0), .val (.int p1), .val (.int p2), .val (.int q), .val (.double (FP.i2d (p0.toInt8.toInt32))), .second, .val (.double (FP.i2d ((p0 >>> ((8 : Int32) &&& 31)).toInt8.toInt32))), .second, .val (.double (FP.i2d ((p0 >>> ((16 : Int32) &&& 31)).toInt8.toInt32))), .second, .val (.double (FP.i2d (p1.toInt8.toInt32))), .second, .val (.double (FP.i2d ((p1 >>> ((8 : Int32) &&& 31)).toInt8.toInt32))), .second, .val (.double (FP.i2d ((p1 >>> ((16 : Int32) &&& 31)).toInt8.toInt32))), .second, .val (.double (FP.i2d (p2.toInt8.toInt32))), .second, .val (.double (FP.i2d ((p2 >>> ((8 : Int32) &&& 31)).toInt8.toInt32))), .second, .val (.double (FP.i2d ((p2 >>> ((16 : Int32) &&& 31)).toInt8.toInt32))), .second, .val (.double (FP.i2d ((q >>> ((8 : Int32) &&& 31)).toInt8.toInt32))), .second, .val (.double (FP.i2d ((q >>> ((16 : Int32) &&& 31)).toInt8.toInt32))), .second, .val (.int (0 : Int32)), .val (.ref b1), .unset, .unset, .unset, .unset, .unset, .unset, .unset, .unset, .unset, .unset, .unset]) rfl (n := 112) rfl ?_
    refine iconst P at_112 (x := (3 : Int32)) rfl (n := 113) rfl ?_
    refine newPE P at_113 (ad := "[D") (hw _ (List.mem_of_getElem? (i := 0) rfl)) (k := 3) (cap := 3) ⟨rfl, by decide⟩ (by decide) (by decide) (by decide) (n := 115) rfl ?_
    intro T h12 b11 P X13 g14 lo_b11 A_b11 E_b11
    have ne_b1_b11 : b1 ≠ b11 := Nat.ne_of_lt (g14 ▸ A_b1.lt)
    replace A_b1 := A_b1.ext X13
    replace E_b1 := Exa.ext X13 E_b1
    replace A_b11 : ARD Z h12 b11 3 (fun _ => 0) := A_b11
    refine dup P at_115 rfl (n := 116) rfl ?_
    refine iconst P at_116 (x := (0 : Int32)) rfl (n := 117) rfl ?_
    refine dload P at_117 rfl (n := 119) rfl ?_
    refine stD P at_119 A_b11 (u := 0) ⟨rfl, by decide⟩ lo_b11 (n := 120) rfl ?_
    intro T h15 P W16
    replace A_b1 := A_b1.other W16 ne_b1_b11
    replace E_b1 := Exa.wr W16 E_b1
    replace E_b11 := Exa.wr W16 E_b11
    replace A_b11 := ARD.set A_b11 W16
    refine dup P at_120 rfl (n := 121) rfl ?_
    refine iconst P at_121 (x := (1 : Int32)) rfl (n := 122) rfl ?_
    refine dload P at_122 rfl (n := 124) rfl ?_
    refine stD P at_124 A_b11 (u := 1) ⟨rfl, by decide⟩ lo_b11 (n := 125) rfl ?_
    intro T h17 P W18
    replace A_b1 := A_b1.other W18 ne_b1_b11
    replace E_b1 := Exa.wr W18 E_b1
    replace E_b11 := Exa.wr W18 E_b11
    replace A_b11 := ARD.set A_b11 W18
    refine dup P at_125 rfl (n := 126) rfl ?_
    refine iconst P at_126 (x := (2 : Int32)) rfl (n := 127) rfl ?_
    refine dload P at_127 rfl (n := 129) rfl ?_
    refine stD P at_129 A_b11 (u := 2) ⟨rfl, by decide⟩ lo_b11 (n := 130) rfl ?_
    intro T h19 P W20
    replace A_b1 := A_b1.other W20 ne_b1_b11
    replace E_b1 := Exa.wr W20 E_b1
    replace E_b11 := Exa.wr W20 E_b11
    replace A_b11 := ARD.set A_b11 W20
    refine astore P at_130 rfl (l' := #[.val (.int p0), .val (.int p1), .val (.int p2), .val (.int q), .val (.double (FP.i2d (p0.toInt8.toInt32))), .second, .val (.double (FP.i2d ((p0 >>> ((8 : Int32) &&& 31)).toInt8.toInt32))), .second, .val (.double (FP.i2d ((p0 >>> ((16 : Int32) &&& 31)).toInt8.toInt32))), .second, .val (.double (FP.i2d (p1.toInt8.toInt32))), .second, .val (.double (FP.i2d ((p1 >>> ((8 : Int32) &&& 31)).toInt8.toInt32))), .second, .val (.double (FP.i2d ((p1 >>> ((16 : Int32) &&& 31)).toInt8.toInt32))), .second, .val (.double (FP.i2d (p2.toInt8.toInt32))), .second, .val (.double (FP.i2d ((p2 >>> ((8 : Int32) &&& 31)).toInt8.toInt32))), .second, .val (.double (FP.i2d ((p2 >>> ((16 : Int32) &&& 31)).toInt8.toInt32))), .second, .val (.double (FP.i2d ((q >>> ((8 : Int32) &&& 31)).toInt8.toInt32))), .second, .val (.double (FP.i2d ((q >>> ((16 : Int32) &&& 31)).toInt8.toInt32))), .second, .val (.int (0 : Int32)), .val (.ref b1), .val (.ref b11), .unset, .unset, .unset, .unset, .unset, .unset, .unset, .unset, .unset, .unset]) rfl (n := 132) rfl ?_
    refine iconst P at_132 (x := (3 : Int32)) rfl (n := 133) rfl ?_
    refine newPE P at_133 (ad := "[D") (hw _ (List.mem_of_getElem? (i := 0) rfl)) (k := 3) (cap := 3) ⟨rfl, by decide⟩ (by decide) (by decide) (by decide) (n := 135) rfl ?_
    intro T h22 b21 P X23 g24 lo_b21 A_b21 E_b21
    have ne_b1_b21 : b1 ≠ b21 := Nat.ne_of_lt (g24 ▸ A_b1.lt)
    have ne_b11_b21 : b11 ≠ b21 := Nat.ne_of_lt (g24 ▸ A_b11.lt)
    replace A_b1 := A_b1.ext X23
    replace E_b1 := Exa.ext X23 E_b1
    replace A_b11 := A_b11.ext X23
    replace E_b11 := Exa.ext X23 E_b11
    replace A_b21 : ARD Z h22 b21 3 (fun _ => 0) := A_b21
    refine dup P at_135 rfl (n := 136) rfl ?_
    refine iconst P at_136 (x := (0 : Int32)) rfl (n := 137) rfl ?_
    refine dload P at_137 rfl (n := 139) rfl ?_
    refine stD P at_139 A_b21 (u := 0) ⟨rfl, by decide⟩ lo_b21 (n := 140) rfl ?_
    intro T h25 P W26
    replace A_b1 := A_b1.other W26 ne_b1_b21
    replace E_b1 := Exa.wr W26 E_b1
    replace A_b11 := A_b11.other W26 ne_b11_b21
    replace E_b11 := Exa.wr W26 E_b11
    replace E_b21 := Exa.wr W26 E_b21
    replace A_b21 := ARD.set A_b21 W26
    refine dup P at_140 rfl (n := 141) rfl ?_
    refine iconst P at_141 (x := (1 : Int32)) rfl (n := 142) rfl ?_
    refine dload P at_142 rfl (n := 144) rfl ?_
    refine stD P at_144 A_b21 (u := 1) ⟨rfl, by decide⟩ lo_b21 (n := 145) rfl ?_
    intro T h27 P W28
    replace A_b1 := A_b1.other W28 ne_b1_b21
    replace E_b1 := Exa.wr W28 E_b1
    replace A_b11 := A_b11.other W28 ne_b11_b21
    replace E_b11 := Exa.wr W28 E_b11
    replace E_b21 := Exa.wr W28 E_b21
    replace A_b21 := ARD.set A_b21 W28
    refine dup P at_145 rfl (n := 146) rfl ?_
    refine iconst P at_146 (x := (2 : Int32)) rfl (n := 147) rfl ?_
    refine dload P at_147 rfl (n := 149) rfl ?_
    refine stD P at_149 A_b21 (u := 2) ⟨rfl, by decide⟩ lo_b21 (n := 150) rfl ?_
    intro T h29 P W30
    replace A_b1 := A_b1.other W30 ne_b1_b21
    replace E_b1 := Exa.wr W30 E_b1
    replace A_b11 := A_b11.other W30 ne_b11_b21
    replace E_b11 := Exa.wr W30 E_b11
    replace E_b21 := Exa.wr W30 E_b21
    replace A_b21 := ARD.set A_b21 W30
    refine astore P at_150 rfl (l' := #[.val (.int p0), .val (.int p1), .val (.int p2), .val (.int q), .val (.double (FP.i2d (p0.toInt8.toInt32))), .second, .val (.double (FP.i2d ((p0 >>> ((8 : Int32) &&& 31)).toInt8.toInt32))), .second, .val (.double (FP.i2d ((p0 >>> ((16 : Int32) &&& 31)).toInt8.toInt32))), .second, .val (.double (FP.i2d (p1.toInt8.toInt32))), .second, .val (.double (FP.i2d ((p1 >>> ((8 : Int32) &&& 31)).toInt8.toInt32))), .second, .val (.double (FP.i2d ((p1 >>> ((16 : Int32) &&& 31)).toInt8.toInt32))), .second, .val (.double (FP.i2d (p2.toInt8.toInt32))), .second, .val (.double (FP.i2d ((p2 >>> ((8 : Int32) &&& 31)).toInt8.toInt32))), .second, .val (.double (FP.i2d ((p2 >>> ((16 : Int32) &&& 31)).toInt8.toInt32))), .second, .val (.double (FP.i2d ((q >>> ((8 : Int32) &&& 31)).toInt8.toInt32))), .second, .val (.double (FP.i2d ((q >>> ((16 : Int32) &&& 31)).toInt8.toInt32))), .second, .val (.int (0 : Int32)), .val (.ref b1), .val (.ref b11), .val (.ref b21), .unset, .unset, .unset, .unset, .unset, .unset, .unset, .unset, .unset]) rfl (n := 152) rfl ?_
    obtain ⟨gc, egc⟩ : ∃ g : Nat → UInt64, g = (ovr (ovr (ovr (fun _ => (0 : UInt64)) 0 (FP.i2d (p0.toInt8.toInt32))) 1 (FP.i2d (p1.toInt8.toInt32))) 2 (FP.i2d (p2.toInt8.toInt32))) := ⟨_, rfl⟩
    rw [← egc] at A_b1
    have gc0 : gc 0 = (FP.i2d (p0.toInt8.toInt32)) := by rw [egc]; rfl
    have gc1 : gc 1 = (FP.i2d (p1.toInt8.toInt32)) := by rw [egc]; rfl
    have gc2 : gc 2 = (FP.i2d (p2.toInt8.toInt32)) := by rw [egc]; rfl
    obtain ⟨gl, egl⟩ : ∃ g : Nat → UInt64, g = (ovr (ovr (ovr (fun _ => (0 : UInt64)) 0 (FP.i2d ((p0 >>> ((8 : Int32) &&& 31)).toInt8.toInt32))) 1 (FP.i2d ((p1 >>> ((8 : Int32) &&& 31)).toInt8.toInt32))) 2 (FP.i2d ((p2 >>> ((8 : Int32) &&& 31)).toInt8.toInt32))) := ⟨_, rfl⟩
    rw [← egl] at A_b11
    have gl0 : gl 0 = (FP.i2d ((p0 >>> ((8 : Int32) &&& 31)).toInt8.toInt32)) := by rw [egl]; rfl
    have gl1 : gl 1 = (FP.i2d ((p1 >>> ((8 : Int32) &&& 31)).toInt8.toInt32)) := by rw [egl]; rfl
    have gl2 : gl 2 = (FP.i2d ((p2 >>> ((8 : Int32) &&& 31)).toInt8.toInt32)) := by rw [egl]; rfl
    obtain ⟨gu, egu⟩ : ∃ g : Nat → UInt64, g = (ovr (ovr (ovr (fun _ => (0 : UInt64)) 0 (FP.i2d ((p0 >>> ((16 : Int32) &&& 31)).toInt8.toInt32))) 1 (FP.i2d ((p1 >>> ((16 : Int32) &&& 31)).toInt8.toInt32))) 2 (FP.i2d ((p2 >>> ((16 : Int32) &&& 31)).toInt8.toInt32))) := ⟨_, rfl⟩
    rw [← egu] at A_b21
    have gu0 : gu 0 = (FP.i2d ((p0 >>> ((16 : Int32) &&& 31)).toInt8.toInt32)) := by rw [egu]; rfl
    have gu1 : gu 1 = (FP.i2d ((p1 >>> ((16 : Int32) &&& 31)).toInt8.toInt32)) := by rw [egu]; rfl
    have gu2 : gu 2 = (FP.i2d ((p2 >>> ((16 : Int32) &&& 31)).toInt8.toInt32)) := by rw [egu]; rfl
    refine newO P at_152 (hw _ (List.mem_of_getElem? (i := 1) rfl)) (hw _ (List.mem_of_getElem? (i := 2) rfl)) (hw _ (List.mem_of_getElem? (i := 3) rfl)) (by decide) (by decide) (n := 155) rfl ?_
    intro T h31 a P X32 g33 lo_a E_a D_a
    have ne_b1_a : b1 ≠ a := Nat.ne_of_lt (g33 ▸ A_b1.lt)
    have ne_b11_a : b11 ≠ a := Nat.ne_of_lt (g33 ▸ A_b11.lt)
    have ne_b21_a : b21 ≠ a := Nat.ne_of_lt (g33 ▸ A_b21.lt)
    replace A_b1 := A_b1.ext X32
    replace E_b1 := Exa.ext X32 E_b1
    replace A_b11 := A_b11.ext X32
    replace E_b11 := Exa.ext X32 E_b11
    replace A_b21 := A_b21.ext X32
    replace E_b21 := Exa.ext X32 E_b21
    have F_a_rowColumns := D_a (Or.inl (hw _ (List.mem_of_getElem? (i := 13) rfl))) (ty := (.array (.array .int))) (by decide)
    have F_a_rowCoefficients := D_a (Or.inl (hw _ (List.mem_of_getElem? (i := 17) rfl))) (ty := (.array (.array .double))) (by decide)
    have F_a_bound := D_a (Or.inl (hw _ (List.mem_of_getElem? (i := 19) rfl))) (ty := (.array .double)) (by decide)
    have F_a_slack := D_a (Or.inl (hw _ (List.mem_of_getElem? (i := 21) rfl))) (ty := (.array .double)) (by decide)
    have F_a_rowPlace := D_a (Or.inl (hw _ (List.mem_of_getElem? (i := 24) rfl))) (ty := (.array .int)) (by decide)
    have F_a_tight := D_a (Or.inl (hw _ (List.mem_of_getElem? (i := 26) rfl))) (ty := (.array .int)) (by decide)
    have F_a_basic := D_a (Or.inl (hw _ (List.mem_of_getElem? (i := 28) rfl))) (ty := (.array .int)) (by decide)
    have F_a_inverse := D_a (Or.inl (hw _ (List.mem_of_getElem? (i := 31) rfl))) (ty := (.array (.array .double))) (by decide)
    have F_a_price := D_a (Or.inl (hw _ (List.mem_of_getElem? (i := 33) rfl))) (ty := (.array .double)) (by decide)
    have F_a_pivotSlack := D_a (Or.inl (hw _ (List.mem_of_getElem? (i := 35) rfl))) (ty := (.array .double)) (by decide)
    have F_a_columns := D_a (Or.inr (hw _ (List.mem_of_getElem? (i := 37) rfl))) (ty := .int) (by decide)
    have F_a_cost := D_a (Or.inr (hw _ (List.mem_of_getElem? (i := 47) rfl))) (ty := (.array .double)) (by decide)
    have F_a_lower := D_a (Or.inr (hw _ (List.mem_of_getElem? (i := 49) rfl))) (ty := (.array .double)) (by decide)
    have F_a_upper := D_a (Or.inr (hw _ (List.mem_of_getElem? (i := 51) rfl))) (ty := (.array .double)) (by decide)
    have F_a_value := D_a (Or.inr (hw _ (List.mem_of_getElem? (i := 53) rfl))) (ty := (.array .double)) (by decide)
    have F_a_columnPlace := D_a (Or.inr (hw _ (List.mem_of_getElem? (i := 55) rfl))) (ty := (.array .int)) (by decide)
    have F_a_columnRows := D_a (Or.inl (hw _ (List.mem_of_getElem? (i := 62) rfl))) (ty := (.array (.array .int))) (by decide)
    have F_a_columnCoefficients := D_a (Or.inl (hw _ (List.mem_of_getElem? (i := 64) rfl))) (ty := (.array (.array .double))) (by decide)
    have F_a_columnLengths := D_a (Or.inl (hw _ (List.mem_of_getElem? (i := 66) rfl))) (ty := (.array .int)) (by decide)
    have F_a_reduced := D_a (Or.inr (hw _ (List.mem_of_getElem? (i := 68) rfl))) (ty := (.array .double)) (by decide)
    have F_a_pivotRow := D_a (Or.inr (hw _ (List.mem_of_getElem? (i := 70) rfl))) (ty := (.array .double)) (by decide)
    refine dup P at_155 rfl (n := 156) rfl ?_
    refine aload P at_156 rfl rfl (n := 158) rfl ?_
    refine aload P at_158 rfl rfl (n := 160) rfl ?_
    refine aload P at_160 rfl rfl (n := 162) rfl ?_
    refine callN P at_162 (a := a) (argsL := [(.ref b1), (.ref b11), (.ref b21)]) (rest := [(.ref a)]) (c_new l Z a0 hw a b1 b11 b21 gc gl gu h31 n0 P.low E_a F_a_rowColumns F_a_rowCoefficients F_a_bound F_a_slack F_a_rowPlace F_a_tight F_a_basic F_a_inverse F_a_price F_a_pivotSlack F_a_columns F_a_cost F_a_lower F_a_upper F_a_value F_a_columnPlace F_a_columnRows F_a_columnCoefficients F_a_columnLengths F_a_reduced F_a_pivotRow A_b1 A_b11 A_b21 E_b1 E_b11 E_b21 ne_b1_a ne_b11_a ne_b21_a lo_a) rfl (hw _ (List.mem_of_getElem? (i := 4) rfl)) (hw _ (List.mem_of_getElem? (i := 5) rfl)) (hw _ (List.mem_of_getElem? (i := 3) rfl)) (hw _ (List.mem_of_getElem? (i := 6) rfl)) (by decide) pd_2 rfl rfl rfl ⟨by decide, Nat.le_of_ble_eq_true rfl, by decide, by decide⟩ (n := 165) rfl ?_
    rintro T h34 v P ⟨rfl, kc, kl, ku, kv, kp, kr, gv, S9, hv0, hv1, hv2⟩
    show Jvm.Own.Ends p e below s room_1 n0 (fun v _ => v = some (.int 1)) T (mkF m 165 #[.val (.int p0), .val (.int p1), .val (.int p2), .val (.int q), .val (.double (FP.i2d (p0.toInt8.toInt32))), .second, .val (.double (FP.i2d ((p0 >>> ((8 : Int32) &&& 31)).toInt8.toInt32))), .second, .val (.double (FP.i2d ((p0 >>> ((16 : Int32) &&& 31)).toInt8.toInt32))), .second, .val (.double (FP.i2d (p1.toInt8.toInt32))), .second, .val (.double (FP.i2d ((p1 >>> ((8 : Int32) &&& 31)).toInt8.toInt32))), .second, .val (.double (FP.i2d ((p1 >>> ((16 : Int32) &&& 31)).toInt8.toInt32))), .second, .val (.double (FP.i2d (p2.toInt8.toInt32))), .second, .val (.double (FP.i2d ((p2 >>> ((8 : Int32) &&& 31)).toInt8.toInt32))), .second, .val (.double (FP.i2d ((p2 >>> ((16 : Int32) &&& 31)).toInt8.toInt32))), .second, .val (.double (FP.i2d ((q >>> ((8 : Int32) &&& 31)).toInt8.toInt32))), .second, .val (.double (FP.i2d ((q >>> ((16 : Int32) &&& 31)).toInt8.toInt32))), .second, .val (.int (0 : Int32)), .val (.ref b1), .val (.ref b11), .val (.ref b21), .unset, .unset, .unset, .unset, .unset, .unset, .unset, .unset, .unset] [(.ref a)])
    rw [gc0, gl0, gu0] at hv0
    rw [gc1, gl1, gu1] at hv1
    rw [gc2, gl2, gu2] at hv2
    refine astore P at_165 rfl (l' := #[.val (.int p0), .val (.int p1), .val (.int p2), .val (.int q), .val (.double (FP.i2d (p0.toInt8.toInt32))), .second, .val (.double (FP.i2d ((p0 >>> ((8 : Int32) &&& 31)).toInt8.toInt32))), .second, .val (.double (FP.i2d ((p0 >>> ((16 : Int32) &&& 31)).toInt8.toInt32))), .second, .val (.double (FP.i2d (p1.toInt8.toInt32))), .second, .val (.double (FP.i2d ((p1 >>> ((8 : Int32) &&& 31)).toInt8.toInt32))), .second, .val (.double (FP.i2d ((p1 >>> ((16 : Int32) &&& 31)).toInt8.toInt32))), .second, .val (.double (FP.i2d (p2.toInt8.toInt32))), .second, .val (.double (FP.i2d ((p2 >>> ((8 : Int32) &&& 31)).toInt8.toInt32))), .second, .val (.double (FP.i2d ((p2 >>> ((16 : Int32) &&& 31)).toInt8.toInt32))), .second, .val (.double (FP.i2d ((q >>> ((8 : Int32) &&& 31)).toInt8.toInt32))), .second, .val (.double (FP.i2d ((q >>> ((16 : Int32) &&& 31)).toInt8.toInt32))), .second, .val (.int (0 : Int32)), .val (.ref b1), .val (.ref b11), .val (.ref b21), .val (.ref a), .unset, .unset, .unset, .unset, .unset, .unset, .unset, .unset]) rfl (n := 167) rfl ?_
    refine dload P at_167 rfl (n := 169) rfl ?_
    refine dconst0 P at_169 (n := 170) rfl ?_
    refine dcmp P at_170 (v := (own_v (FP.i2d (p0.toInt8.toInt32)))) rfl (n := 171) rfl ?_
    refine if0_lt P at_171 (n' := 179) (n := 174) (by decide) rfl (fun hc171 => ?_) (fun hc171 => ?_)
    · -- pc 171 taken
      replace hc171 : (own_v (FP.i2d (p0.toInt8.toInt32))).toInt < (0 : Int) := hc171
      refine dload P at_179 rfl (n := 181) rfl ?_
      refine dstore P at_181 (l' := #[.val (.int p0), .val (.int p1), .val (.int p2), .val (.int q), .val (.double (FP.i2d (p0.toInt8.toInt32))), .second, .val (.double (FP.i2d ((p0 >>> ((8 : Int32) &&& 31)).toInt8.toInt32))), .second, .val (.double (FP.i2d ((p0 >>> ((16 : Int32) &&& 31)).toInt8.toInt32))), .second, .val (.double (FP.i2d (p1.toInt8.toInt32))), .second, .val (.double (FP.i2d ((p1 >>> ((8 : Int32) &&& 31)).toInt8.toInt32))), .second, .val (.double (FP.i2d ((p1 >>> ((16 : Int32) &&& 31)).toInt8.toInt32))), .second, .val (.double (FP.i2d (p2.toInt8.toInt32))), .second, .val (.double (FP.i2d ((p2 >>> ((8 : Int32) &&& 31)).toInt8.toInt32))), .second, .val (.double (FP.i2d ((p2 >>> ((16 : Int32) &&& 31)).toInt8.toInt32))), .second, .val (.double (FP.i2d ((q >>> ((8 : Int32) &&& 31)).toInt8.toInt32))), .second, .val (.double (FP.i2d ((q >>> ((16 : Int32) &&& 31)).toInt8.toInt32))), .second, .val (.int (0 : Int32)), .val (.ref b1), .val (.ref b11), .val (.ref b21), .val (.ref a), .val (.double (FP.i2d ((p0 >>> ((8 : Int32) &&& 31)).toInt8.toInt32))), .second, .unset, .unset, .unset, .unset, .unset, .unset]) rfl (n := 183) rfl ?_
      refine iload P at_183 rfl (n := 185) rfl ?_
      refine if0_eq P at_185 (n' := 214) (n := 188) (by decide) rfl (fun hc185 => ?_) (fun hc185 => ?_)
      · -- pc 185 taken
        replace hc185 : (0 : Int) = (0 : Int) := hc185
        refine dload P at_214 rfl (n := 216) rfl ?_
        refine dconst0 P at_216 (n := 217) rfl ?_
        refine dcmp P at_217 (v := (own_v (FP.i2d (p1.toInt8.toInt32)))) rfl (n := 218) rfl ?_
        refine if0_lt P at_218 (n' := 226) (n := 221) (by decide) rfl (fun hc218 => ?_) (fun hc218 => ?_)
        · -- pc 218 taken
          replace hc218 : (own_v (FP.i2d (p1.toInt8.toInt32))).toInt < (0 : Int) := hc218
          refine dload P at_226 rfl (n := 228) rfl ?_
          refine dstore P at_228 (l' := #[.val (.int p0), .val (.int p1), .val (.int p2), .val (.int q), .val (.double (FP.i2d (p0.toInt8.toInt32))), .second, .val (.double (FP.i2d ((p0 >>> ((8 : Int32) &&& 31)).toInt8.toInt32))), .second, .val (.double (FP.i2d ((p0 >>> ((16 : Int32) &&& 31)).toInt8.toInt32))), .second, .val (.double (FP.i2d (p1.toInt8.toInt32))), .second, .val (.double (FP.i2d ((p1 >>> ((8 : Int32) &&& 31)).toInt8.toInt32))), .second, .val (.double (FP.i2d ((p1 >>> ((16 : Int32) &&& 31)).toInt8.toInt32))), .second, .val (.double (FP.i2d (p2.toInt8.toInt32))), .second, .val (.double (FP.i2d ((p2 >>> ((8 : Int32) &&& 31)).toInt8.toInt32))), .second, .val (.double (FP.i2d ((p2 >>> ((16 : Int32) &&& 31)).toInt8.toInt32))), .second, .val (.double (FP.i2d ((q >>> ((8 : Int32) &&& 31)).toInt8.toInt32))), .second, .val (.double (FP.i2d ((q >>> ((16 : Int32) &&& 31)).toInt8.toInt32))), .second, .val (.int (0 : Int32)), .val (.ref b1), .val (.ref b11), .val (.ref b21), .val (.ref a), .val (.double (FP.i2d ((p0 >>> ((8 : Int32) &&& 31)).toInt8.toInt32))), .second, .val (.double (FP.i2d ((p1 >>> ((8 : Int32) &&& 31)).toInt8.toInt32))), .second, .unset, .unset, .unset, .unset]) rfl (n := 230) rfl ?_
          refine dload P at_230 rfl (n := 232) rfl ?_
          refine dconst0 P at_232 (n := 233) rfl ?_
          refine dcmp P at_233 (v := (own_v (FP.i2d (p2.toInt8.toInt32)))) rfl (n := 234) rfl ?_
          refine if0_lt P at_234 (n' := 242) (n := 237) (by decide) rfl (fun hc234 => ?_) (fun hc234 => ?_)
          · -- pc 234 taken
            replace hc234 : (own_v (FP.i2d (p2.toInt8.toInt32))).toInt < (0 : Int) := hc234
            refine dload P at_242 rfl (n := 244) rfl ?_
            refine dstore P at_244 (l' := #[.val (.int p0), .val (.int p1), .val (.int p2), .val (.int q), .val (.double (FP.i2d (p0.toInt8.toInt32))), .second, .val (.double (FP.i2d ((p0 >>> ((8 : Int32) &&& 31)).toInt8.toInt32))), .second, .val (.double (FP.i2d ((p0 >>> ((16 : Int32) &&& 31)).toInt8.toInt32))), .second, .val (.double (FP.i2d (p1.toInt8.toInt32))), .second, .val (.double (FP.i2d ((p1 >>> ((8 : Int32) &&& 31)).toInt8.toInt32))), .second, .val (.double (FP.i2d ((p1 >>> ((16 : Int32) &&& 31)).toInt8.toInt32))), .second, .val (.double (FP.i2d (p2.toInt8.toInt32))), .second, .val (.double (FP.i2d ((p2 >>> ((8 : Int32) &&& 31)).toInt8.toInt32))), .second, .val (.double (FP.i2d ((p2 >>> ((16 : Int32) &&& 31)).toInt8.toInt32))), .second, .val (.double (FP.i2d ((q >>> ((8 : Int32) &&& 31)).toInt8.toInt32))), .second, .val (.double (FP.i2d ((q >>> ((16 : Int32) &&& 31)).toInt8.toInt32))), .second, .val (.int (0 : Int32)), .val (.ref b1), .val (.ref b11), .val (.ref b21), .val (.ref a), .val (.double (FP.i2d ((p0 >>> ((8 : Int32) &&& 31)).toInt8.toInt32))), .second, .val (.double (FP.i2d ((p1 >>> ((8 : Int32) &&& 31)).toInt8.toInt32))), .second, .val (.double (FP.i2d ((p2 >>> ((8 : Int32) &&& 31)).toInt8.toInt32))), .second, .unset, .unset]) rfl (n := 246) rfl ?_
            refine dload P at_246 rfl (n := 248) rfl ?_
            refine dload P at_248 rfl (n := 250) rfl ?_
            refine dmul P at_250 (own_nm (own_Bi _) (own_Bi _)) (n := 251) rfl ?_
            refine dload P at_251 rfl (n := 253) rfl ?_
            refine dload P at_253 rfl (n := 255) rfl ?_
            refine dmul P at_255 (own_nm (own_Bi _) (own_Bi _)) (n := 256) rfl ?_
            refine dadd P at_256 (own_all (own_Bi _) (own_Bi _) (own_Bi _) (own_Bi _) (own_Bi 0) (own_Bi 0)).2.1.1 (n := 257) rfl ?_
            refine dload P at_257 rfl (n := 259) rfl ?_
            refine dload P at_259 rfl (n := 261) rfl ?_
            refine dmul P at_261 (own_nm (own_Bi _) (own_Bi _)) (n := 262) rfl ?_
            refine dadd P at_262 (own_all (own_Bi _) (own_Bi _) (own_Bi _) (own_Bi _) (own_Bi _) (own_Bi _)).2.1.2 (n := 263) rfl ?_
            refine dstore P at_263 (l' := #[.val (.int p0), .val (.int p1), .val (.int p2), .val (.int q), .val (.double (FP.i2d (p0.toInt8.toInt32))), .second, .val (.double (FP.i2d ((p0 >>> ((8 : Int32) &&& 31)).toInt8.toInt32))), .second, .val (.double (FP.i2d ((p0 >>> ((16 : Int32) &&& 31)).toInt8.toInt32))), .second, .val (.double (FP.i2d (p1.toInt8.toInt32))), .second, .val (.double (FP.i2d ((p1 >>> ((8 : Int32) &&& 31)).toInt8.toInt32))), .second, .val (.double (FP.i2d ((p1 >>> ((16 : Int32) &&& 31)).toInt8.toInt32))), .second, .val (.double (FP.i2d (p2.toInt8.toInt32))), .second, .val (.double (FP.i2d ((p2 >>> ((8 : Int32) &&& 31)).toInt8.toInt32))), .second, .val (.double (FP.i2d ((p2 >>> ((16 : Int32) &&& 31)).toInt8.toInt32))), .second, .val (.double (FP.i2d ((q >>> ((8 : Int32) &&& 31)).toInt8.toInt32))), .second, .val (.double (FP.i2d ((q >>> ((16 : Int32) &&& 31)).toInt8.toInt32))), .second, .val (.int (0 : Int32)), .val (.ref b1), .val (.ref b11), .val (.ref b21), .val (.ref a), .val (.double (FP.i2d ((p0 >>> ((8 : Int32) &&& 31)).toInt8.toInt32))), .second, .val (.double (FP.i2d ((p1 >>> ((8 : Int32) &&& 31)).toInt8.toInt32))), .second, .val (.double (FP.i2d ((p2 >>> ((8 : Int32) &&& 31)).toInt8.toInt32))), .second, .val (.double (FP.dadd (FP.dadd (FP.dmul (FP.i2d (p0.toInt8.toInt32)) (FP.i2d ((p0 >>> ((8 : Int32) &&& 31)).toInt8.toInt32))) (FP.dmul (FP.i2d (p1.toInt8.toInt32)) (FP.i2d ((p1 >>> ((8 : Int32) &&& 31)).toInt8.toInt32)))) (FP.dmul (FP.i2d (p2.toInt8.toInt32)) (FP.i2d ((p2 >>> ((8 : Int32) &&& 31)).toInt8.toInt32))))), .second]) rfl (n := 265) rfl ?_
            refine aload P at_265 rfl rfl (n := 267) rfl ?_
            have ev0 : gv 0 = (FP.i2d ((p0 >>> ((8 : Int32) &&& 31)).toInt8.toInt32)) := hv0.trans (if_pos hc171)
            have ev1 : gv 1 = (FP.i2d ((p1 >>> ((8 : Int32) &&& 31)).toInt8.toInt32)) := hv1.trans (if_pos hc218)
            have ev2 : gv 2 = (FP.i2d ((p2 >>> ((8 : Int32) &&& 31)).toInt8.toInt32)) := hv2.trans (if_pos hc234)
            refine callV P at_267 (a := a) (argsL := []) (rest := []) (c_obj l Z a0 hw a kc kl ku kv kp kr gc gl gu gv h34 n0 P.low S9 (by rw [gc0]; exact own_Bi _) (by rw [gc1]; exact own_Bi _) (by rw [gc2]; exact own_Bi _) (by rw [ev0]; exact own_Bi _) (by rw [ev1]; exact own_Bi _) (by rw [ev2]; exact own_Bi _)) S9.1 (hw _ (List.mem_of_getElem? (i := 76) rfl)) (hw _ (List.mem_of_getElem? (i := 77) rfl)) (notFace_of_selects (args := #[]) (mvT P.hZ (hw _ (List.mem_of_getElem? (i := 79) rfl)))) (hw _ (List.mem_of_getElem? (i := 79) rfl)) (hw _ (List.mem_of_getElem? (i := 78) rfl)) (hw _ (List.mem_of_getElem? (i := 3) rfl)) (hw _ (List.mem_of_getElem? (i := 80) rfl)) (by decide) pd_4 rfl rfl rfl ⟨by decide, Nat.le_of_ble_eq_true rfl, by decide, by decide⟩ (n := 270) rfl (Ret.on ?_)
            intro T P
            refine dload P at_270 rfl (n := 272) rfl ?_
            refine dcmp P at_272 (v := (0 : Int32)) (by rw [ev0, ev1, ev2, gc0, gc1, gc2]; exact (own_all (own_Bi _) (own_Bi _) (own_Bi _) (own_Bi _) (own_Bi _) (own_Bi _)).2.2) (n := 273) rfl ?_
            refine if0_ne P at_273 (n' := 280) (n := 276) (by decide) rfl (fun hc273 => ?_) (fun hc273 => ?_)
            · -- pc 273 taken
              replace hc273 : ¬ (0 : Int) = (0 : Int) := hc273
              exact absurd hc273 (by decide)
            · -- pc 273 not taken
              replace hc273 : (0 : Int) = (0 : Int) := hc273
              refine iconst P at_276 (x := (1 : Int32)) rfl (n := 277) rfl ?_
              refine goto P at_277 (n := 281) (by decide) ?_
              refine retZ P at_281 (by decide) (by decide) (by decide) ?_
              exact rfl
          · -- pc 234 not taken
            replace hc234 : (0 : Int) ≤ (own_v (FP.i2d (p2.toInt8.toInt32))).toInt := hc234
            refine dload P at_237 rfl (n := 239) rfl ?_
            refine goto P at_239 (n := 244) (by decide) ?_
            refine dstore P at_244 (l' := #[.val (.int p0), .val (.int p1), .val (.int p2), .val (.int q), .val (.double (FP.i2d (p0.toInt8.toInt32))), .second, .val (.double (FP.i2d ((p0 >>> ((8 : Int32) &&& 31)).toInt8.toInt32))), .second, .val (.double (FP.i2d ((p0 >>> ((16 : Int32) &&& 31)).toInt8.toInt32))), .second, .val (.double (FP.i2d (p1.toInt8.toInt32))), .second, .val (.double (FP.i2d ((p1 >>> ((8 : Int32) &&& 31)).toInt8.toInt32))), .second, .val (.double (FP.i2d ((p1 >>> ((16 : Int32) &&& 31)).toInt8.toInt32))), .second, .val (.double (FP.i2d (p2.toInt8.toInt32))), .second, .val (.double (FP.i2d ((p2 >>> ((8 : Int32) &&& 31)).toInt8.toInt32))), .second, .val (.double (FP.i2d ((p2 >>> ((16 : Int32) &&& 31)).toInt8.toInt32))), .second, .val (.double (FP.i2d ((q >>> ((8 : Int32) &&& 31)).toInt8.toInt32))), .second, .val (.double (FP.i2d ((q >>> ((16 : Int32) &&& 31)).toInt8.toInt32))), .second, .val (.int (0 : Int32)), .val (.ref b1), .val (.ref b11), .val (.ref b21), .val (.ref a), .val (.double (FP.i2d ((p0 >>> ((8 : Int32) &&& 31)).toInt8.toInt32))), .second, .val (.double (FP.i2d ((p1 >>> ((8 : Int32) &&& 31)).toInt8.toInt32))), .second, .val (.double (FP.i2d ((p2 >>> ((16 : Int32) &&& 31)).toInt8.toInt32))), .second, .unset, .unset]) rfl (n := 246) rfl ?_
            refine dload P at_246 rfl (n := 248) rfl ?_
            refine dload P at_248 rfl (n := 250) rfl ?_
            refine dmul P at_250 (own_nm (own_Bi _) (own_Bi _)) (n := 251) rfl ?_
            refine dload P at_251 rfl (n := 253) rfl ?_
            refine dload P at_253 rfl (n := 255) rfl ?_
            refine dmul P at_255 (own_nm (own_Bi _) (own_Bi _)) (n := 256) rfl ?_
            refine dadd P at_256 (own_all (own_Bi _) (own_Bi _) (own_Bi _) (own_Bi _) (own_Bi 0) (own_Bi 0)).2.1.1 (n := 257) rfl ?_
            refine dload P at_257 rfl (n := 259) rfl ?_
            refine dload P at_259 rfl (n := 261) rfl ?_
            refine dmul P at_261 (own_nm (own_Bi _) (own_Bi _)) (n := 262) rfl ?_
            refine dadd P at_262 (own_all (own_Bi _) (own_Bi _) (own_Bi _) (own_Bi _) (own_Bi _) (own_Bi _)).2.1.2 (n := 263) rfl ?_
            refine dstore P at_263 (l' := #[.val (.int p0), .val (.int p1), .val (.int p2), .val (.int q), .val (.double (FP.i2d (p0.toInt8.toInt32))), .second, .val (.double (FP.i2d ((p0 >>> ((8 : Int32) &&& 31)).toInt8.toInt32))), .second, .val (.double (FP.i2d ((p0 >>> ((16 : Int32) &&& 31)).toInt8.toInt32))), .second, .val (.double (FP.i2d (p1.toInt8.toInt32))), .second, .val (.double (FP.i2d ((p1 >>> ((8 : Int32) &&& 31)).toInt8.toInt32))), .second, .val (.double (FP.i2d ((p1 >>> ((16 : Int32) &&& 31)).toInt8.toInt32))), .second, .val (.double (FP.i2d (p2.toInt8.toInt32))), .second, .val (.double (FP.i2d ((p2 >>> ((8 : Int32) &&& 31)).toInt8.toInt32))), .second, .val (.double (FP.i2d ((p2 >>> ((16 : Int32) &&& 31)).toInt8.toInt32))), .second, .val (.double (FP.i2d ((q >>> ((8 : Int32) &&& 31)).toInt8.toInt32))), .second, .val (.double (FP.i2d ((q >>> ((16 : Int32) &&& 31)).toInt8.toInt32))), .second, .val (.int (0 : Int32)), .val (.ref b1), .val (.ref b11), .val (.ref b21), .val (.ref a), .val (.double (FP.i2d ((p0 >>> ((8 : Int32) &&& 31)).toInt8.toInt32))), .second, .val (.double (FP.i2d ((p1 >>> ((8 : Int32) &&& 31)).toInt8.toInt32))), .second, .val (.double (FP.i2d ((p2 >>> ((16 : Int32) &&& 31)).toInt8.toInt32))), .second, .val (.double (FP.dadd (FP.dadd (FP.dmul (FP.i2d (p0.toInt8.toInt32)) (FP.i2d ((p0 >>> ((8 : Int32) &&& 31)).toInt8.toInt32))) (FP.dmul (FP.i2d (p1.toInt8.toInt32)) (FP.i2d ((p1 >>> ((8 : Int32) &&& 31)).toInt8.toInt32)))) (FP.dmul (FP.i2d (p2.toInt8.toInt32)) (FP.i2d ((p2 >>> ((16 : Int32) &&& 31)).toInt8.toInt32))))), .second]) rfl (n := 265) rfl ?_
            refine aload P at_265 rfl rfl (n := 267) rfl ?_
            have ev0 : gv 0 = (FP.i2d ((p0 >>> ((8 : Int32) &&& 31)).toInt8.toInt32)) := hv0.trans (if_pos hc171)
            have ev1 : gv 1 = (FP.i2d ((p1 >>> ((8 : Int32) &&& 31)).toInt8.toInt32)) := hv1.trans (if_pos hc218)
            have ev2 : gv 2 = (FP.i2d ((p2 >>> ((16 : Int32) &&& 31)).toInt8.toInt32)) := hv2.trans (if_neg (Int.not_lt.mpr hc234))
            refine callV P at_267 (a := a) (argsL := []) (rest := []) (c_obj l Z a0 hw a kc kl ku kv kp kr gc gl gu gv h34 n0 P.low S9 (by rw [gc0]; exact own_Bi _) (by rw [gc1]; exact own_Bi _) (by rw [gc2]; exact own_Bi _) (by rw [ev0]; exact own_Bi _) (by rw [ev1]; exact own_Bi _) (by rw [ev2]; exact own_Bi _)) S9.1 (hw _ (List.mem_of_getElem? (i := 76) rfl)) (hw _ (List.mem_of_getElem? (i := 77) rfl)) (notFace_of_selects (args := #[]) (mvT P.hZ (hw _ (List.mem_of_getElem? (i := 79) rfl)))) (hw _ (List.mem_of_getElem? (i := 79) rfl)) (hw _ (List.mem_of_getElem? (i := 78) rfl)) (hw _ (List.mem_of_getElem? (i := 3) rfl)) (hw _ (List.mem_of_getElem? (i := 80) rfl)) (by decide) pd_4 rfl rfl rfl ⟨by decide, Nat.le_of_ble_eq_true rfl, by decide, by decide⟩ (n := 270) rfl (Ret.on ?_)
            intro T P
            refine dload P at_270 rfl (n := 272) rfl ?_
            refine dcmp P at_272 (v := (0 : Int32)) (by rw [ev0, ev1, ev2, gc0, gc1, gc2]; exact (own_all (own_Bi _) (own_Bi _) (own_Bi _) (own_Bi _) (own_Bi _) (own_Bi _)).2.2) (n := 273) rfl ?_
            refine if0_ne P at_273 (n' := 280) (n := 276) (by decide) rfl (fun hc273 => ?_) (fun hc273 => ?_)
            · -- pc 273 taken
              replace hc273 : ¬ (0 : Int) = (0 : Int) := hc273
              exact absurd hc273 (by decide)
            · -- pc 273 not taken
              replace hc273 : (0 : Int) = (0 : Int) := hc273
              refine iconst P at_276 (x := (1 : Int32)) rfl (n := 277) rfl ?_
              refine goto P at_277 (n := 281) (by decide) ?_
              refine retZ P at_281 (by decide) (by decide) (by decide) ?_
              exact rfl
        · -- pc 218 not taken
          replace hc218 : (0 : Int) ≤ (own_v (FP.i2d (p1.toInt8.toInt32))).toInt := hc218
          refine dload P at_221 rfl (n := 223) rfl ?_
          refine goto P at_223 (n := 228) (by decide) ?_
          refine dstore P at_228 (l' := #[.val (.int p0), .val (.int p1), .val (.int p2), .val (.int q), .val (.double (FP.i2d (p0.toInt8.toInt32))), .second, .val (.double (FP.i2d ((p0 >>> ((8 : Int32) &&& 31)).toInt8.toInt32))), .second, .val (.double (FP.i2d ((p0 >>> ((16 : Int32) &&& 31)).toInt8.toInt32))), .second, .val (.double (FP.i2d (p1.toInt8.toInt32))), .second, .val (.double (FP.i2d ((p1 >>> ((8 : Int32) &&& 31)).toInt8.toInt32))), .second, .val (.double (FP.i2d ((p1 >>> ((16 : Int32) &&& 31)).toInt8.toInt32))), .second, .val (.double (FP.i2d (p2.toInt8.toInt32))), .second, .val (.double (FP.i2d ((p2 >>> ((8 : Int32) &&& 31)).toInt8.toInt32))), .second, .val (.double (FP.i2d ((p2 >>> ((16 : Int32) &&& 31)).toInt8.toInt32))), .second, .val (.double (FP.i2d ((q >>> ((8 : Int32) &&& 31)).toInt8.toInt32))), .second, .val (.double (FP.i2d ((q >>> ((16 : Int32) &&& 31)).toInt8.toInt32))), .second, .val (.int (0 : Int32)), .val (.ref b1), .val (.ref b11), .val (.ref b21), .val (.ref a), .val (.double (FP.i2d ((p0 >>> ((8 : Int32) &&& 31)).toInt8.toInt32))), .second, .val (.double (FP.i2d ((p1 >>> ((16 : Int32) &&& 31)).toInt8.toInt32))), .second, .unset, .unset, .unset, .unset]) rfl (n := 230) rfl ?_
          refine dload P at_230 rfl (n := 232) rfl ?_
          refine dconst0 P at_232 (n := 233) rfl ?_
          refine dcmp P at_233 (v := (own_v (FP.i2d (p2.toInt8.toInt32)))) rfl (n := 234) rfl ?_
          refine if0_lt P at_234 (n' := 242) (n := 237) (by decide) rfl (fun hc234 => ?_) (fun hc234 => ?_)
          · -- pc 234 taken
            replace hc234 : (own_v (FP.i2d (p2.toInt8.toInt32))).toInt < (0 : Int) := hc234
            refine dload P at_242 rfl (n := 244) rfl ?_
            refine dstore P at_244 (l' := #[.val (.int p0), .val (.int p1), .val (.int p2), .val (.int q), .val (.double (FP.i2d (p0.toInt8.toInt32))), .second, .val (.double (FP.i2d ((p0 >>> ((8 : Int32) &&& 31)).toInt8.toInt32))), .second, .val (.double (FP.i2d ((p0 >>> ((16 : Int32) &&& 31)).toInt8.toInt32))), .second, .val (.double (FP.i2d (p1.toInt8.toInt32))), .second, .val (.double (FP.i2d ((p1 >>> ((8 : Int32) &&& 31)).toInt8.toInt32))), .second, .val (.double (FP.i2d ((p1 >>> ((16 : Int32) &&& 31)).toInt8.toInt32))), .second, .val (.double (FP.i2d (p2.toInt8.toInt32))), .second, .val (.double (FP.i2d ((p2 >>> ((8 : Int32) &&& 31)).toInt8.toInt32))), .second, .val (.double (FP.i2d ((p2 >>> ((16 : Int32) &&& 31)).toInt8.toInt32))), .second, .val (.double (FP.i2d ((q >>> ((8 : Int32) &&& 31)).toInt8.toInt32))), .second, .val (.double (FP.i2d ((q >>> ((16 : Int32) &&& 31)).toInt8.toInt32))), .second, .val (.int (0 : Int32)), .val (.ref b1), .val (.ref b11), .val (.ref b21), .val (.ref a), .val (.double (FP.i2d ((p0 >>> ((8 : Int32) &&& 31)).toInt8.toInt32))), .second, .val (.double (FP.i2d ((p1 >>> ((16 : Int32) &&& 31)).toInt8.toInt32))), .second, .val (.double (FP.i2d ((p2 >>> ((8 : Int32) &&& 31)).toInt8.toInt32))), .second, .unset, .unset]) rfl (n := 246) rfl ?_
            refine dload P at_246 rfl (n := 248) rfl ?_
            refine dload P at_248 rfl (n := 250) rfl ?_
            refine dmul P at_250 (own_nm (own_Bi _) (own_Bi _)) (n := 251) rfl ?_
            refine dload P at_251 rfl (n := 253) rfl ?_
            refine dload P at_253 rfl (n := 255) rfl ?_
            refine dmul P at_255 (own_nm (own_Bi _) (own_Bi _)) (n := 256) rfl ?_
            refine dadd P at_256 (own_all (own_Bi _) (own_Bi _) (own_Bi _) (own_Bi _) (own_Bi 0) (own_Bi 0)).2.1.1 (n := 257) rfl ?_
            refine dload P at_257 rfl (n := 259) rfl ?_
            refine dload P at_259 rfl (n := 261) rfl ?_
            refine dmul P at_261 (own_nm (own_Bi _) (own_Bi _)) (n := 262) rfl ?_
            refine dadd P at_262 (own_all (own_Bi _) (own_Bi _) (own_Bi _) (own_Bi _) (own_Bi _) (own_Bi _)).2.1.2 (n := 263) rfl ?_
            refine dstore P at_263 (l' := #[.val (.int p0), .val (.int p1), .val (.int p2), .val (.int q), .val (.double (FP.i2d (p0.toInt8.toInt32))), .second, .val (.double (FP.i2d ((p0 >>> ((8 : Int32) &&& 31)).toInt8.toInt32))), .second, .val (.double (FP.i2d ((p0 >>> ((16 : Int32) &&& 31)).toInt8.toInt32))), .second, .val (.double (FP.i2d (p1.toInt8.toInt32))), .second, .val (.double (FP.i2d ((p1 >>> ((8 : Int32) &&& 31)).toInt8.toInt32))), .second, .val (.double (FP.i2d ((p1 >>> ((16 : Int32) &&& 31)).toInt8.toInt32))), .second, .val (.double (FP.i2d (p2.toInt8.toInt32))), .second, .val (.double (FP.i2d ((p2 >>> ((8 : Int32) &&& 31)).toInt8.toInt32))), .second, .val (.double (FP.i2d ((p2 >>> ((16 : Int32) &&& 31)).toInt8.toInt32))), .second, .val (.double (FP.i2d ((q >>> ((8 : Int32) &&& 31)).toInt8.toInt32))), .second, .val (.double (FP.i2d ((q >>> ((16 : Int32) &&& 31)).toInt8.toInt32))), .second, .val (.int (0 : Int32)), .val (.ref b1), .val (.ref b11), .val (.ref b21), .val (.ref a), .val (.double (FP.i2d ((p0 >>> ((8 : Int32) &&& 31)).toInt8.toInt32))), .second, .val (.double (FP.i2d ((p1 >>> ((16 : Int32) &&& 31)).toInt8.toInt32))), .second, .val (.double (FP.i2d ((p2 >>> ((8 : Int32) &&& 31)).toInt8.toInt32))), .second, .val (.double (FP.dadd (FP.dadd (FP.dmul (FP.i2d (p0.toInt8.toInt32)) (FP.i2d ((p0 >>> ((8 : Int32) &&& 31)).toInt8.toInt32))) (FP.dmul (FP.i2d (p1.toInt8.toInt32)) (FP.i2d ((p1 >>> ((16 : Int32) &&& 31)).toInt8.toInt32)))) (FP.dmul (FP.i2d (p2.toInt8.toInt32)) (FP.i2d ((p2 >>> ((8 : Int32) &&& 31)).toInt8.toInt32))))), .second]) rfl (n := 265) rfl ?_
            refine aload P at_265 rfl rfl (n := 267) rfl ?_
            have ev0 : gv 0 = (FP.i2d ((p0 >>> ((8 : Int32) &&& 31)).toInt8.toInt32)) := hv0.trans (if_pos hc171)
            have ev1 : gv 1 = (FP.i2d ((p1 >>> ((16 : Int32) &&& 31)).toInt8.toInt32)) := hv1.trans (if_neg (Int.not_lt.mpr hc218))
            have ev2 : gv 2 = (FP.i2d ((p2 >>> ((8 : Int32) &&& 31)).toInt8.toInt32)) := hv2.trans (if_pos hc234)
            refine callV P at_267 (a := a) (argsL := []) (rest := []) (c_obj l Z a0 hw a kc kl ku kv kp kr gc gl gu gv h34 n0 P.low S9 (by rw [gc0]; exact own_Bi _) (by rw [gc1]; exact own_Bi _) (by rw [gc2]; exact own_Bi _) (by rw [ev0]; exact own_Bi _) (by rw [ev1]; exact own_Bi _) (by rw [ev2]; exact own_Bi _)) S9.1 (hw _ (List.mem_of_getElem? (i := 76) rfl)) (hw _ (List.mem_of_getElem? (i := 77) rfl)) (notFace_of_selects (args := #[]) (mvT P.hZ (hw _ (List.mem_of_getElem? (i := 79) rfl)))) (hw _ (List.mem_of_getElem? (i := 79) rfl)) (hw _ (List.mem_of_getElem? (i := 78) rfl)) (hw _ (List.mem_of_getElem? (i := 3) rfl)) (hw _ (List.mem_of_getElem? (i := 80) rfl)) (by decide) pd_4 rfl rfl rfl ⟨by decide, Nat.le_of_ble_eq_true rfl, by decide, by decide⟩ (n := 270) rfl (Ret.on ?_)
            intro T P
            refine dload P at_270 rfl (n := 272) rfl ?_
            refine dcmp P at_272 (v := (0 : Int32)) (by rw [ev0, ev1, ev2, gc0, gc1, gc2]; exact (own_all (own_Bi _) (own_Bi _) (own_Bi _) (own_Bi _) (own_Bi _) (own_Bi _)).2.2) (n := 273) rfl ?_
            refine if0_ne P at_273 (n' := 280) (n := 276) (by decide) rfl (fun hc273 => ?_) (fun hc273 => ?_)
            · -- pc 273 taken
              replace hc273 : ¬ (0 : Int) = (0 : Int) := hc273
              exact absurd hc273 (by decide)
            · -- pc 273 not taken
              replace hc273 : (0 : Int) = (0 : Int) := hc273
              refine iconst P at_276 (x := (1 : Int32)) rfl (n := 277) rfl ?_
              refine goto P at_277 (n := 281) (by decide) ?_
              refine retZ P at_281 (by decide) (by decide) (by decide) ?_
              exact rfl
          · -- pc 234 not taken
            replace hc234 : (0 : Int) ≤ (own_v (FP.i2d (p2.toInt8.toInt32))).toInt := hc234
            refine dload P at_237 rfl (n := 239) rfl ?_
            refine goto P at_239 (n := 244) (by decide) ?_
            refine dstore P at_244 (l' := #[.val (.int p0), .val (.int p1), .val (.int p2), .val (.int q), .val (.double (FP.i2d (p0.toInt8.toInt32))), .second, .val (.double (FP.i2d ((p0 >>> ((8 : Int32) &&& 31)).toInt8.toInt32))), .second, .val (.double (FP.i2d ((p0 >>> ((16 : Int32) &&& 31)).toInt8.toInt32))), .second, .val (.double (FP.i2d (p1.toInt8.toInt32))), .second, .val (.double (FP.i2d ((p1 >>> ((8 : Int32) &&& 31)).toInt8.toInt32))), .second, .val (.double (FP.i2d ((p1 >>> ((16 : Int32) &&& 31)).toInt8.toInt32))), .second, .val (.double (FP.i2d (p2.toInt8.toInt32))), .second, .val (.double (FP.i2d ((p2 >>> ((8 : Int32) &&& 31)).toInt8.toInt32))), .second, .val (.double (FP.i2d ((p2 >>> ((16 : Int32) &&& 31)).toInt8.toInt32))), .second, .val (.double (FP.i2d ((q >>> ((8 : Int32) &&& 31)).toInt8.toInt32))), .second, .val (.double (FP.i2d ((q >>> ((16 : Int32) &&& 31)).toInt8.toInt32))), .second, .val (.int (0 : Int32)), .val (.ref b1), .val (.ref b11), .val (.ref b21), .val (.ref a), .val (.double (FP.i2d ((p0 >>> ((8 : Int32) &&& 31)).toInt8.toInt32))), .second, .val (.double (FP.i2d ((p1 >>> ((16 : Int32) &&& 31)).toInt8.toInt32))), .second, .val (.double (FP.i2d ((p2 >>> ((16 : Int32) &&& 31)).toInt8.toInt32))), .second, .unset, .unset]) rfl (n := 246) rfl ?_
            refine dload P at_246 rfl (n := 248) rfl ?_
            refine dload P at_248 rfl (n := 250) rfl ?_
            refine dmul P at_250 (own_nm (own_Bi _) (own_Bi _)) (n := 251) rfl ?_
            refine dload P at_251 rfl (n := 253) rfl ?_
            refine dload P at_253 rfl (n := 255) rfl ?_
            refine dmul P at_255 (own_nm (own_Bi _) (own_Bi _)) (n := 256) rfl ?_
            refine dadd P at_256 (own_all (own_Bi _) (own_Bi _) (own_Bi _) (own_Bi _) (own_Bi 0) (own_Bi 0)).2.1.1 (n := 257) rfl ?_
            refine dload P at_257 rfl (n := 259) rfl ?_
            refine dload P at_259 rfl (n := 261) rfl ?_
            refine dmul P at_261 (own_nm (own_Bi _) (own_Bi _)) (n := 262) rfl ?_
            refine dadd P at_262 (own_all (own_Bi _) (own_Bi _) (own_Bi _) (own_Bi _) (own_Bi _) (own_Bi _)).2.1.2 (n := 263) rfl ?_
            refine dstore P at_263 (l' := #[.val (.int p0), .val (.int p1), .val (.int p2), .val (.int q), .val (.double (FP.i2d (p0.toInt8.toInt32))), .second, .val (.double (FP.i2d ((p0 >>> ((8 : Int32) &&& 31)).toInt8.toInt32))), .second, .val (.double (FP.i2d ((p0 >>> ((16 : Int32) &&& 31)).toInt8.toInt32))), .second, .val (.double (FP.i2d (p1.toInt8.toInt32))), .second, .val (.double (FP.i2d ((p1 >>> ((8 : Int32) &&& 31)).toInt8.toInt32))), .second, .val (.double (FP.i2d ((p1 >>> ((16 : Int32) &&& 31)).toInt8.toInt32))), .second, .val (.double (FP.i2d (p2.toInt8.toInt32))), .second, .val (.double (FP.i2d ((p2 >>> ((8 : Int32) &&& 31)).toInt8.toInt32))), .second, .val (.double (FP.i2d ((p2 >>> ((16 : Int32) &&& 31)).toInt8.toInt32))), .second, .val (.double (FP.i2d ((q >>> ((8 : Int32) &&& 31)).toInt8.toInt32))), .second, .val (.double (FP.i2d ((q >>> ((16 : Int32) &&& 31)).toInt8.toInt32))), .second, .val (.int (0 : Int32)), .val (.ref b1), .val (.ref b11), .val (.ref b21), .val (.ref a), .val (.double (FP.i2d ((p0 >>> ((8 : Int32) &&& 31)).toInt8.toInt32))), .second, .val (.double (FP.i2d ((p1 >>> ((16 : Int32) &&& 31)).toInt8.toInt32))), .second, .val (.double (FP.i2d ((p2 >>> ((16 : Int32) &&& 31)).toInt8.toInt32))), .second, .val (.double (FP.dadd (FP.dadd (FP.dmul (FP.i2d (p0.toInt8.toInt32)) (FP.i2d ((p0 >>> ((8 : Int32) &&& 31)).toInt8.toInt32))) (FP.dmul (FP.i2d (p1.toInt8.toInt32)) (FP.i2d ((p1 >>> ((16 : Int32) &&& 31)).toInt8.toInt32)))) (FP.dmul (FP.i2d (p2.toInt8.toInt32)) (FP.i2d ((p2 >>> ((16 : Int32) &&& 31)).toInt8.toInt32))))), .second]) rfl (n := 265) rfl ?_
            refine aload P at_265 rfl rfl (n := 267) rfl ?_
            have ev0 : gv 0 = (FP.i2d ((p0 >>> ((8 : Int32) &&& 31)).toInt8.toInt32)) := hv0.trans (if_pos hc171)
            have ev1 : gv 1 = (FP.i2d ((p1 >>> ((16 : Int32) &&& 31)).toInt8.toInt32)) := hv1.trans (if_neg (Int.not_lt.mpr hc218))
            have ev2 : gv 2 = (FP.i2d ((p2 >>> ((16 : Int32) &&& 31)).toInt8.toInt32)) := hv2.trans (if_neg (Int.not_lt.mpr hc234))
            refine callV P at_267 (a := a) (argsL := []) (rest := []) (c_obj l Z a0 hw a kc kl ku kv kp kr gc gl gu gv h34 n0 P.low S9 (by rw [gc0]; exact own_Bi _) (by rw [gc1]; exact own_Bi _) (by rw [gc2]; exact own_Bi _) (by rw [ev0]; exact own_Bi _) (by rw [ev1]; exact own_Bi _) (by rw [ev2]; exact own_Bi _)) S9.1 (hw _ (List.mem_of_getElem? (i := 76) rfl)) (hw _ (List.mem_of_getElem? (i := 77) rfl)) (notFace_of_selects (args := #[]) (mvT P.hZ (hw _ (List.mem_of_getElem? (i := 79) rfl)))) (hw _ (List.mem_of_getElem? (i := 79) rfl)) (hw _ (List.mem_of_getElem? (i := 78) rfl)) (hw _ (List.mem_of_getElem? (i := 3) rfl)) (hw _ (List.mem_of_getElem? (i := 80) rfl)) (by decide) pd_4 rfl rfl rfl ⟨by decide, Nat.le_of_ble_eq_true rfl, by decide, by decide⟩ (n := 270) rfl (Ret.on ?_)
            intro T P
            refine dload P at_270 rfl (n := 272) rfl ?_
            refine dcmp P at_272 (v := (0 : Int32)) (by rw [ev0, ev1, ev2, gc0, gc1, gc2]; exact (own_all (own_Bi _) (own_Bi _) (own_Bi _) (own_Bi _) (own_Bi _) (own_Bi _)).2.2) (n := 273) rfl ?_
            refine if0_ne P at_273 (n' := 280) (n := 276) (by decide) rfl (fun hc273 => ?_) (fun hc273 => ?_)
            · -- pc 273 taken
              replace hc273 : ¬ (0 : Int) = (0 : Int) := hc273
              exact absurd hc273 (by decide)
            · -- pc 273 not taken
              replace hc273 : (0 : Int) = (0 : Int) := hc273
              refine iconst P at_276 (x := (1 : Int32)) rfl (n := 277) rfl ?_
              refine goto P at_277 (n := 281) (by decide) ?_
              refine retZ P at_281 (by decide) (by decide) (by decide) ?_
              exact rfl
      · -- pc 185 not taken
        replace hc185 : ¬ (0 : Int) = (0 : Int) := hc185
        exact absurd hc185 (by decide)
    · -- pc 171 not taken
      replace hc171 : (0 : Int) ≤ (own_v (FP.i2d (p0.toInt8.toInt32))).toInt := hc171
      refine dload P at_174 rfl (n := 176) rfl ?_
      refine goto P at_176 (n := 181) (by decide) ?_
      refine dstore P at_181 (l' := #[.val (.int p0), .val (.int p1), .val (.int p2), .val (.int q), .val (.double (FP.i2d (p0.toInt8.toInt32))), .second, .val (.double (FP.i2d ((p0 >>> ((8 : Int32) &&& 31)).toInt8.toInt32))), .second, .val (.double (FP.i2d ((p0 >>> ((16 : Int32) &&& 31)).toInt8.toInt32))), .second, .val (.double (FP.i2d (p1.toInt8.toInt32))), .second, .val (.double (FP.i2d ((p1 >>> ((8 : Int32) &&& 31)).toInt8.toInt32))), .second, .val (.double (FP.i2d ((p1 >>> ((16 : Int32) &&& 31)).toInt8.toInt32))), .second, .val (.double (FP.i2d (p2.toInt8.toInt32))), .second, .val (.double (FP.i2d ((p2 >>> ((8 : Int32) &&& 31)).toInt8.toInt32))), .second, .val (.double (FP.i2d ((p2 >>> ((16 : Int32) &&& 31)).toInt8.toInt32))), .second, .val (.double (FP.i2d ((q >>> ((8 : Int32) &&& 31)).toInt8.toInt32))), .second, .val (.double (FP.i2d ((q >>> ((16 : Int32) &&& 31)).toInt8.toInt32))), .second, .val (.int (0 : Int32)), .val (.ref b1), .val (.ref b11), .val (.ref b21), .val (.ref a), .val (.double (FP.i2d ((p0 >>> ((16 : Int32) &&& 31)).toInt8.toInt32))), .second, .unset, .unset, .unset, .unset, .unset, .unset]) rfl (n := 183) rfl ?_
      refine iload P at_183 rfl (n := 185) rfl ?_
      refine if0_eq P at_185 (n' := 214) (n := 188) (by decide) rfl (fun hc185 => ?_) (fun hc185 => ?_)
      · -- pc 185 taken
        replace hc185 : (0 : Int) = (0 : Int) := hc185
        refine dload P at_214 rfl (n := 216) rfl ?_
        refine dconst0 P at_216 (n := 217) rfl ?_
        refine dcmp P at_217 (v := (own_v (FP.i2d (p1.toInt8.toInt32)))) rfl (n := 218) rfl ?_
        refine if0_lt P at_218 (n' := 226) (n := 221) (by decide) rfl (fun hc218 => ?_) (fun hc218 => ?_)
        · -- pc 218 taken
          replace hc218 : (own_v (FP.i2d (p1.toInt8.toInt32))).toInt < (0 : Int) := hc218
          refine dload P at_226 rfl (n := 228) rfl ?_
          refine dstore P at_228 (l' := #[.val (.int p0), .val (.int p1), .val (.int p2), .val (.int q), .val (.double (FP.i2d (p0.toInt8.toInt32))), .second, .val (.double (FP.i2d ((p0 >>> ((8 : Int32) &&& 31)).toInt8.toInt32))), .second, .val (.double (FP.i2d ((p0 >>> ((16 : Int32) &&& 31)).toInt8.toInt32))), .second, .val (.double (FP.i2d (p1.toInt8.toInt32))), .second, .val (.double (FP.i2d ((p1 >>> ((8 : Int32) &&& 31)).toInt8.toInt32))), .second, .val (.double (FP.i2d ((p1 >>> ((16 : Int32) &&& 31)).toInt8.toInt32))), .second, .val (.double (FP.i2d (p2.toInt8.toInt32))), .second, .val (.double (FP.i2d ((p2 >>> ((8 : Int32) &&& 31)).toInt8.toInt32))), .second, .val (.double (FP.i2d ((p2 >>> ((16 : Int32) &&& 31)).toInt8.toInt32))), .second, .val (.double (FP.i2d ((q >>> ((8 : Int32) &&& 31)).toInt8.toInt32))), .second, .val (.double (FP.i2d ((q >>> ((16 : Int32) &&& 31)).toInt8.toInt32))), .second, .val (.int (0 : Int32)), .val (.ref b1), .val (.ref b11), .val (.ref b21), .val (.ref a), .val (.double (FP.i2d ((p0 >>> ((16 : Int32) &&& 31)).toInt8.toInt32))), .second, .val (.double (FP.i2d ((p1 >>> ((8 : Int32) &&& 31)).toInt8.toInt32))), .second, .unset, .unset, .unset, .unset]) rfl (n := 230) rfl ?_
          refine dload P at_230 rfl (n := 232) rfl ?_
          refine dconst0 P at_232 (n := 233) rfl ?_
          refine dcmp P at_233 (v := (own_v (FP.i2d (p2.toInt8.toInt32)))) rfl (n := 234) rfl ?_
          refine if0_lt P at_234 (n' := 242) (n := 237) (by decide) rfl (fun hc234 => ?_) (fun hc234 => ?_)
          · -- pc 234 taken
            replace hc234 : (own_v (FP.i2d (p2.toInt8.toInt32))).toInt < (0 : Int) := hc234
            refine dload P at_242 rfl (n := 244) rfl ?_
            refine dstore P at_244 (l' := #[.val (.int p0), .val (.int p1), .val (.int p2), .val (.int q), .val (.double (FP.i2d (p0.toInt8.toInt32))), .second, .val (.double (FP.i2d ((p0 >>> ((8 : Int32) &&& 31)).toInt8.toInt32))), .second, .val (.double (FP.i2d ((p0 >>> ((16 : Int32) &&& 31)).toInt8.toInt32))), .second, .val (.double (FP.i2d (p1.toInt8.toInt32))), .second, .val (.double (FP.i2d ((p1 >>> ((8 : Int32) &&& 31)).toInt8.toInt32))), .second, .val (.double (FP.i2d ((p1 >>> ((16 : Int32) &&& 31)).toInt8.toInt32))), .second, .val (.double (FP.i2d (p2.toInt8.toInt32))), .second, .val (.double (FP.i2d ((p2 >>> ((8 : Int32) &&& 31)).toInt8.toInt32))), .second, .val (.double (FP.i2d ((p2 >>> ((16 : Int32) &&& 31)).toInt8.toInt32))), .second, .val (.double (FP.i2d ((q >>> ((8 : Int32) &&& 31)).toInt8.toInt32))), .second, .val (.double (FP.i2d ((q >>> ((16 : Int32) &&& 31)).toInt8.toInt32))), .second, .val (.int (0 : Int32)), .val (.ref b1), .val (.ref b11), .val (.ref b21), .val (.ref a), .val (.double (FP.i2d ((p0 >>> ((16 : Int32) &&& 31)).toInt8.toInt32))), .second, .val (.double (FP.i2d ((p1 >>> ((8 : Int32) &&& 31)).toInt8.toInt32))), .second, .val (.double (FP.i2d ((p2 >>> ((8 : Int32) &&& 31)).toInt8.toInt32))), .second, .unset, .unset]) rfl (n := 246) rfl ?_
            refine dload P at_246 rfl (n := 248) rfl ?_
            refine dload P at_248 rfl (n := 250) rfl ?_
            refine dmul P at_250 (own_nm (own_Bi _) (own_Bi _)) (n := 251) rfl ?_
            refine dload P at_251 rfl (n := 253) rfl ?_
            refine dload P at_253 rfl (n := 255) rfl ?_
            refine dmul P at_255 (own_nm (own_Bi _) (own_Bi _)) (n := 256) rfl ?_
            refine dadd P at_256 (own_all (own_Bi _) (own_Bi _) (own_Bi _) (own_Bi _) (own_Bi 0) (own_Bi 0)).2.1.1 (n := 257) rfl ?_
            refine dload P at_257 rfl (n := 259) rfl ?_
            refine dload P at_259 rfl (n := 261) rfl ?_
            refine dmul P at_261 (own_nm (own_Bi _) (own_Bi _)) (n := 262) rfl ?_
            refine dadd P at_262 (own_all (own_Bi _) (own_Bi _) (own_Bi _) (own_Bi _) (own_Bi _) (own_Bi _)).2.1.2 (n := 263) rfl ?_
            refine dstore P at_263 (l' := #[.val (.int p0), .val (.int p1), .val (.int p2), .val (.int q), .val (.double (FP.i2d (p0.toInt8.toInt32))), .second, .val (.double (FP.i2d ((p0 >>> ((8 : Int32) &&& 31)).toInt8.toInt32))), .second, .val (.double (FP.i2d ((p0 >>> ((16 : Int32) &&& 31)).toInt8.toInt32))), .second, .val (.double (FP.i2d (p1.toInt8.toInt32))), .second, .val (.double (FP.i2d ((p1 >>> ((8 : Int32) &&& 31)).toInt8.toInt32))), .second, .val (.double (FP.i2d ((p1 >>> ((16 : Int32) &&& 31)).toInt8.toInt32))), .second, .val (.double (FP.i2d (p2.toInt8.toInt32))), .second, .val (.double (FP.i2d ((p2 >>> ((8 : Int32) &&& 31)).toInt8.toInt32))), .second, .val (.double (FP.i2d ((p2 >>> ((16 : Int32) &&& 31)).toInt8.toInt32))), .second, .val (.double (FP.i2d ((q >>> ((8 : Int32) &&& 31)).toInt8.toInt32))), .second, .val (.double (FP.i2d ((q >>> ((16 : Int32) &&& 31)).toInt8.toInt32))), .second, .val (.int (0 : Int32)), .val (.ref b1), .val (.ref b11), .val (.ref b21), .val (.ref a), .val (.double (FP.i2d ((p0 >>> ((16 : Int32) &&& 31)).toInt8.toInt32))), .second, .val (.double (FP.i2d ((p1 >>> ((8 : Int32) &&& 31)).toInt8.toInt32))), .second, .val (.double (FP.i2d ((p2 >>> ((8 : Int32) &&& 31)).toInt8.toInt32))), .second, .val (.double (FP.dadd (FP.dadd (FP.dmul (FP.i2d (p0.toInt8.toInt32)) (FP.i2d ((p0 >>> ((16 : Int32) &&& 31)).toInt8.toInt32))) (FP.dmul (FP.i2d (p1.toInt8.toInt32)) (FP.i2d ((p1 >>> ((8 : Int32) &&& 31)).toInt8.toInt32)))) (FP.dmul (FP.i2d (p2.toInt8.toInt32)) (FP.i2d ((p2 >>> ((8 : Int32) &&& 31)).toInt8.toInt32))))), .second]) rfl (n := 265) rfl ?_
            refine aload P at_265 rfl rfl (n := 267) rfl ?_
            have ev0 : gv 0 = (FP.i2d ((p0 >>> ((16 : Int32) &&& 31)).toInt8.toInt32)) := hv0.trans (if_neg (Int.not_lt.mpr hc171))
            have ev1 : gv 1 = (FP.i2d ((p1 >>> ((8 : Int32) &&& 31)).toInt8.toInt32)) := hv1.trans (if_pos hc218)
            have ev2 : gv 2 = (FP.i2d ((p2 >>> ((8 : Int32) &&& 31)).toInt8.toInt32)) := hv2.trans (if_pos hc234)
            refine callV P at_267 (a := a) (argsL := []) (rest := []) (c_obj l Z a0 hw a kc kl ku kv kp kr gc gl gu gv h34 n0 P.low S9 (by rw [gc0]; exact own_Bi _) (by rw [gc1]; exact own_Bi _) (by rw [gc2]; exact own_Bi _) (by rw [ev0]; exact own_Bi _) (by rw [ev1]; exact own_Bi _) (by rw [ev2]; exact own_Bi _)) S9.1 (hw _ (List.mem_of_getElem? (i := 76) rfl)) (hw _ (List.mem_of_getElem? (i := 77) rfl)) (notFace_of_selects (args := #[]) (mvT P.hZ (hw _ (List.mem_of_getElem? (i := 79) rfl)))) (hw _ (List.mem_of_getElem? (i := 79) rfl)) (hw _ (List.mem_of_getElem? (i := 78) rfl)) (hw _ (List.mem_of_getElem? (i := 3) rfl)) (hw _ (List.mem_of_getElem? (i := 80) rfl)) (by decide) pd_4 rfl rfl rfl ⟨by decide, Nat.le_of_ble_eq_true rfl, by decide, by decide⟩ (n := 270) rfl (Ret.on ?_)
            intro T P
            refine dload P at_270 rfl (n := 272) rfl ?_
            refine dcmp P at_272 (v := (0 : Int32)) (by rw [ev0, ev1, ev2, gc0, gc1, gc2]; exact (own_all (own_Bi _) (own_Bi _) (own_Bi _) (own_Bi _) (own_Bi _) (own_Bi _)).2.2) (n := 273) rfl ?_
            refine if0_ne P at_273 (n' := 280) (n := 276) (by decide) rfl (fun hc273 => ?_) (fun hc273 => ?_)
            · -- pc 273 taken
              replace hc273 : ¬ (0 : Int) = (0 : Int) := hc273
              exact absurd hc273 (by decide)
            · -- pc 273 not taken
              replace hc273 : (0 : Int) = (0 : Int) := hc273
              refine iconst P at_276 (x := (1 : Int32)) rfl (n := 277) rfl ?_
              refine goto P at_277 (n := 281) (by decide) ?_
              refine retZ P at_281 (by decide) (by decide) (by decide) ?_
              exact rfl
          · -- pc 234 not taken
            replace hc234 : (0 : Int) ≤ (own_v (FP.i2d (p2.toInt8.toInt32))).toInt := hc234
            refine dload P at_237 rfl (n := 239) rfl ?_
            refine goto P at_239 (n := 244) (by decide) ?_
            refine dstore P at_244 (l' := #[.val (.int p0), .val (.int p1), .val (.int p2), .val (.int q), .val (.double (FP.i2d (p0.toInt8.toInt32))), .second, .val (.double (FP.i2d ((p0 >>> ((8 : Int32) &&& 31)).toInt8.toInt32))), .second, .val (.double (FP.i2d ((p0 >>> ((16 : Int32) &&& 31)).toInt8.toInt32))), .second, .val (.double (FP.i2d (p1.toInt8.toInt32))), .second, .val (.double (FP.i2d ((p1 >>> ((8 : Int32) &&& 31)).toInt8.toInt32))), .second, .val (.double (FP.i2d ((p1 >>> ((16 : Int32) &&& 31)).toInt8.toInt32))), .second, .val (.double (FP.i2d (p2.toInt8.toInt32))), .second, .val (.double (FP.i2d ((p2 >>> ((8 : Int32) &&& 31)).toInt8.toInt32))), .second, .val (.double (FP.i2d ((p2 >>> ((16 : Int32) &&& 31)).toInt8.toInt32))), .second, .val (.double (FP.i2d ((q >>> ((8 : Int32) &&& 31)).toInt8.toInt32))), .second, .val (.double (FP.i2d ((q >>> ((16 : Int32) &&& 31)).toInt8.toInt32))), .second, .val (.int (0 : Int32)), .val (.ref b1), .val (.ref b11), .val (.ref b21), .val (.ref a), .val (.double (FP.i2d ((p0 >>> ((16 : Int32) &&& 31)).toInt8.toInt32))), .second, .val (.double (FP.i2d ((p1 >>> ((8 : Int32) &&& 31)).toInt8.toInt32))), .second, .val (.double (FP.i2d ((p2 >>> ((16 : Int32) &&& 31)).toInt8.toInt32))), .second, .unset, .unset]) rfl (n := 246) rfl ?_
            refine dload P at_246 rfl (n := 248) rfl ?_
            refine dload P at_248 rfl (n := 250) rfl ?_
            refine dmul P at_250 (own_nm (own_Bi _) (own_Bi _)) (n := 251) rfl ?_
            refine dload P at_251 rfl (n := 253) rfl ?_
            refine dload P at_253 rfl (n := 255) rfl ?_
            refine dmul P at_255 (own_nm (own_Bi _) (own_Bi _)) (n := 256) rfl ?_
            refine dadd P at_256 (own_all (own_Bi _) (own_Bi _) (own_Bi _) (own_Bi _) (own_Bi 0) (own_Bi 0)).2.1.1 (n := 257) rfl ?_
            refine dload P at_257 rfl (n := 259) rfl ?_
            refine dload P at_259 rfl (n := 261) rfl ?_
            refine dmul P at_261 (own_nm (own_Bi _) (own_Bi _)) (n := 262) rfl ?_
            refine dadd P at_262 (own_all (own_Bi _) (own_Bi _) (own_Bi _) (own_Bi _) (own_Bi _) (own_Bi _)).2.1.2 (n := 263) rfl ?_
            refine dstore P at_263 (l' := #[.val (.int p0), .val (.int p1), .val (.int p2), .val (.int q), .val (.double (FP.i2d (p0.toInt8.toInt32))), .second, .val (.double (FP.i2d ((p0 >>> ((8 : Int32) &&& 31)).toInt8.toInt32))), .second, .val (.double (FP.i2d ((p0 >>> ((16 : Int32) &&& 31)).toInt8.toInt32))), .second, .val (.double (FP.i2d (p1.toInt8.toInt32))), .second, .val (.double (FP.i2d ((p1 >>> ((8 : Int32) &&& 31)).toInt8.toInt32))), .second, .val (.double (FP.i2d ((p1 >>> ((16 : Int32) &&& 31)).toInt8.toInt32))), .second, .val (.double (FP.i2d (p2.toInt8.toInt32))), .second, .val (.double (FP.i2d ((p2 >>> ((8 : Int32) &&& 31)).toInt8.toInt32))), .second, .val (.double (FP.i2d ((p2 >>> ((16 : Int32) &&& 31)).toInt8.toInt32))), .second, .val (.double (FP.i2d ((q >>> ((8 : Int32) &&& 31)).toInt8.toInt32))), .second, .val (.double (FP.i2d ((q >>> ((16 : Int32) &&& 31)).toInt8.toInt32))), .second, .val (.int (0 : Int32)), .val (.ref b1), .val (.ref b11), .val (.ref b21), .val (.ref a), .val (.double (FP.i2d ((p0 >>> ((16 : Int32) &&& 31)).toInt8.toInt32))), .second, .val (.double (FP.i2d ((p1 >>> ((8 : Int32) &&& 31)).toInt8.toInt32))), .second, .val (.double (FP.i2d ((p2 >>> ((16 : Int32) &&& 31)).toInt8.toInt32))), .second, .val (.double (FP.dadd (FP.dadd (FP.dmul (FP.i2d (p0.toInt8.toInt32)) (FP.i2d ((p0 >>> ((16 : Int32) &&& 31)).toInt8.toInt32))) (FP.dmul (FP.i2d (p1.toInt8.toInt32)) (FP.i2d ((p1 >>> ((8 : Int32) &&& 31)).toInt8.toInt32)))) (FP.dmul (FP.i2d (p2.toInt8.toInt32)) (FP.i2d ((p2 >>> ((16 : Int32) &&& 31)).toInt8.toInt32))))), .second]) rfl (n := 265) rfl ?_
            refine aload P at_265 rfl rfl (n := 267) rfl ?_
            have ev0 : gv 0 = (FP.i2d ((p0 >>> ((16 : Int32) &&& 31)).toInt8.toInt32)) := hv0.trans (if_neg (Int.not_lt.mpr hc171))
            have ev1 : gv 1 = (FP.i2d ((p1 >>> ((8 : Int32) &&& 31)).toInt8.toInt32)) := hv1.trans (if_pos hc218)
            have ev2 : gv 2 = (FP.i2d ((p2 >>> ((16 : Int32) &&& 31)).toInt8.toInt32)) := hv2.trans (if_neg (Int.not_lt.mpr hc234))
            refine callV P at_267 (a := a) (argsL := []) (rest := []) (c_obj l Z a0 hw a kc kl ku kv kp kr gc gl gu gv h34 n0 P.low S9 (by rw [gc0]; exact own_Bi _) (by rw [gc1]; exact own_Bi _) (by rw [gc2]; exact own_Bi _) (by rw [ev0]; exact own_Bi _) (by rw [ev1]; exact own_Bi _) (by rw [ev2]; exact own_Bi _)) S9.1 (hw _ (List.mem_of_getElem? (i := 76) rfl)) (hw _ (List.mem_of_getElem? (i := 77) rfl)) (notFace_of_selects (args := #[]) (mvT P.hZ (hw _ (List.mem_of_getElem? (i := 79) rfl)))) (hw _ (List.mem_of_getElem? (i := 79) rfl)) (hw _ (List.mem_of_getElem? (i := 78) rfl)) (hw _ (List.mem_of_getElem? (i := 3) rfl)) (hw _ (List.mem_of_getElem? (i := 80) rfl)) (by decide) pd_4 rfl rfl rfl ⟨by decide, Nat.le_of_ble_eq_true rfl, by decide, by decide⟩ (n := 270) rfl (Ret.on ?_)
            intro T P
            refine dload P at_270 rfl (n := 272) rfl ?_
            refine dcmp P at_272 (v := (0 : Int32)) (by rw [ev0, ev1, ev2, gc0, gc1, gc2]; exact (own_all (own_Bi _) (own_Bi _) (own_Bi _) (own_Bi _) (own_Bi _) (own_Bi _)).2.2) (n := 273) rfl ?_
            refine if0_ne P at_273 (n' := 280) (n := 276) (by decide) rfl (fun hc273 => ?_) (fun hc273 => ?_)
            · -- pc 273 taken
              replace hc273 : ¬ (0 : Int) = (0 : Int) := hc273
              exact absurd hc273 (by decide)
            · -- pc 273 not taken
              replace hc273 : (0 : Int) = (0 : Int) := hc273
              refine iconst P at_276 (x := (1 : Int32)) rfl (n := 277) rfl ?_
              refine goto P at_277 (n := 281) (by decide) ?_
              refine retZ P at_281 (by decide) (by decide) (by decide) ?_
              exact rfl
        · -- pc 218 not taken
          replace hc218 : (0 : Int) ≤ (own_v (FP.i2d (p1.toInt8.toInt32))).toInt := hc218
          refine dload P at_221 rfl (n := 223) rfl ?_
          refine goto P at_223 (n := 228) (by decide) ?_
          refine dstore P at_228 (l' := #[.val (.int p0), .val (.int p1), .val (.int p2), .val (.int q), .val (.double (FP.i2d (p0.toInt8.toInt32))), .second, .val (.double (FP.i2d ((p0 >>> ((8 : Int32) &&& 31)).toInt8.toInt32))), .second, .val (.double (FP.i2d ((p0 >>> ((16 : Int32) &&& 31)).toInt8.toInt32))), .second, .val (.double (FP.i2d (p1.toInt8.toInt32))), .second, .val (.double (FP.i2d ((p1 >>> ((8 : Int32) &&& 31)).toInt8.toInt32))), .second, .val (.double (FP.i2d ((p1 >>> ((16 : Int32) &&& 31)).toInt8.toInt32))), .second, .val (.double (FP.i2d (p2.toInt8.toInt32))), .second, .val (.double (FP.i2d ((p2 >>> ((8 : Int32) &&& 31)).toInt8.toInt32))), .second, .val (.double (FP.i2d ((p2 >>> ((16 : Int32) &&& 31)).toInt8.toInt32))), .second, .val (.double (FP.i2d ((q >>> ((8 : Int32) &&& 31)).toInt8.toInt32))), .second, .val (.double (FP.i2d ((q >>> ((16 : Int32) &&& 31)).toInt8.toInt32))), .second, .val (.int (0 : Int32)), .val (.ref b1), .val (.ref b11), .val (.ref b21), .val (.ref a), .val (.double (FP.i2d ((p0 >>> ((16 : Int32) &&& 31)).toInt8.toInt32))), .second, .val (.double (FP.i2d ((p1 >>> ((16 : Int32) &&& 31)).toInt8.toInt32))), .second, .unset, .unset, .unset, .unset]) rfl (n := 230) rfl ?_
          refine dload P at_230 rfl (n := 232) rfl ?_
          refine dconst0 P at_232 (n := 233) rfl ?_
          refine dcmp P at_233 (v := (own_v (FP.i2d (p2.toInt8.toInt32)))) rfl (n := 234) rfl ?_
          refine if0_lt P at_234 (n' := 242) (n := 237) (by decide) rfl (fun hc234 => ?_) (fun hc234 => ?_)
          · -- pc 234 taken
            replace hc234 : (own_v (FP.i2d (p2.toInt8.toInt32))).toInt < (0 : Int) := hc234
            refine dload P at_242 rfl (n := 244) rfl ?_
            refine dstore P at_244 (l' := #[.val (.int p0), .val (.int p1), .val (.int p2), .val (.int q), .val (.double (FP.i2d (p0.toInt8.toInt32))), .second, .val (.double (FP.i2d ((p0 >>> ((8 : Int32) &&& 31)).toInt8.toInt32))), .second, .val (.double (FP.i2d ((p0 >>> ((16 : Int32) &&& 31)).toInt8.toInt32))), .second, .val (.double (FP.i2d (p1.toInt8.toInt32))), .second, .val (.double (FP.i2d ((p1 >>> ((8 : Int32) &&& 31)).toInt8.toInt32))), .second, .val (.double (FP.i2d ((p1 >>> ((16 : Int32) &&& 31)).toInt8.toInt32))), .second, .val (.double (FP.i2d (p2.toInt8.toInt32))), .second, .val (.double (FP.i2d ((p2 >>> ((8 : Int32) &&& 31)).toInt8.toInt32))), .second, .val (.double (FP.i2d ((p2 >>> ((16 : Int32) &&& 31)).toInt8.toInt32))), .second, .val (.double (FP.i2d ((q >>> ((8 : Int32) &&& 31)).toInt8.toInt32))), .second, .val (.double (FP.i2d ((q >>> ((16 : Int32) &&& 31)).toInt8.toInt32))), .second, .val (.int (0 : Int32)), .val (.ref b1), .val (.ref b11), .val (.ref b21), .val (.ref a), .val (.double (FP.i2d ((p0 >>> ((16 : Int32) &&& 31)).toInt8.toInt32))), .second, .val (.double (FP.i2d ((p1 >>> ((16 : Int32) &&& 31)).toInt8.toInt32))), .second, .val (.double (FP.i2d ((p2 >>> ((8 : Int32) &&& 31)).toInt8.toInt32))), .second, .unset, .unset]) rfl (n := 246) rfl ?_
            refine dload P at_246 rfl (n := 248) rfl ?_
            refine dload P at_248 rfl (n := 250) rfl ?_
            refine dmul P at_250 (own_nm (own_Bi _) (own_Bi _)) (n := 251) rfl ?_
            refine dload P at_251 rfl (n := 253) rfl ?_
            refine dload P at_253 rfl (n := 255) rfl ?_
            refine dmul P at_255 (own_nm (own_Bi _) (own_Bi _)) (n := 256) rfl ?_
            refine dadd P at_256 (own_all (own_Bi _) (own_Bi _) (own_Bi _) (own_Bi _) (own_Bi 0) (own_Bi 0)).2.1.1 (n := 257) rfl ?_
            refine dload P at_257 rfl (n := 259) rfl ?_
            refine dload P at_259 rfl (n := 261) rfl ?_
            refine dmul P at_261 (own_nm (own_Bi _) (own_Bi _)) (n := 262) rfl ?_
            refine dadd P at_262 (own_all (own_Bi _) (own_Bi _) (own_Bi _) (own_Bi _) (own_Bi _) (own_Bi _)).2.1.2 (n := 263) rfl ?_
            refine dstore P at_263 (l' := #[.val (.int p0), .val (.int p1), .val (.int p2), .val (.int q), .val (.double (FP.i2d (p0.toInt8.toInt32))), .second, .val (.double (FP.i2d ((p0 >>> ((8 : Int32) &&& 31)).toInt8.toInt32))), .second, .val (.double (FP.i2d ((p0 >>> ((16 : Int32) &&& 31)).toInt8.toInt32))), .second, .val (.double (FP.i2d (p1.toInt8.toInt32))), .second, .val (.double (FP.i2d ((p1 >>> ((8 : Int32) &&& 31)).toInt8.toInt32))), .second, .val (.double (FP.i2d ((p1 >>> ((16 : Int32) &&& 31)).toInt8.toInt32))), .second, .val (.double (FP.i2d (p2.toInt8.toInt32))), .second, .val (.double (FP.i2d ((p2 >>> ((8 : Int32) &&& 31)).toInt8.toInt32))), .second, .val (.double (FP.i2d ((p2 >>> ((16 : Int32) &&& 31)).toInt8.toInt32))), .second, .val (.double (FP.i2d ((q >>> ((8 : Int32) &&& 31)).toInt8.toInt32))), .second, .val (.double (FP.i2d ((q >>> ((16 : Int32) &&& 31)).toInt8.toInt32))), .second, .val (.int (0 : Int32)), .val (.ref b1), .val (.ref b11), .val (.ref b21), .val (.ref a), .val (.double (FP.i2d ((p0 >>> ((16 : Int32) &&& 31)).toInt8.toInt32))), .second, .val (.double (FP.i2d ((p1 >>> ((16 : Int32) &&& 31)).toInt8.toInt32))), .second, .val (.double (FP.i2d ((p2 >>> ((8 : Int32) &&& 31)).toInt8.toInt32))), .second, .val (.double (FP.dadd (FP.dadd (FP.dmul (FP.i2d (p0.toInt8.toInt32)) (FP.i2d ((p0 >>> ((16 : Int32) &&& 31)).toInt8.toInt32))) (FP.dmul (FP.i2d (p1.toInt8.toInt32)) (FP.i2d ((p1 >>> ((16 : Int32) &&& 31)).toInt8.toInt32)))) (FP.dmul (FP.i2d (p2.toInt8.toInt32)) (FP.i2d ((p2 >>> ((8 : Int32) &&& 31)).toInt8.toInt32))))), .second]) rfl (n := 265) rfl ?_
            refine aload P at_265 rfl rfl (n := 267) rfl ?_
            have ev0 : gv 0 = (FP.i2d ((p0 >>> ((16 : Int32) &&& 31)).toInt8.toInt32)) := hv0.trans (if_neg (Int.not_lt.mpr hc171))
            have ev1 : gv 1 = (FP.i2d ((p1 >>> ((16 : Int32) &&& 31)).toInt8.toInt32)) := hv1.trans (if_neg (Int.not_lt.mpr hc218))
            have ev2 : gv 2 = (FP.i2d ((p2 >>> ((8 : Int32) &&& 31)).toInt8.toInt32)) := hv2.trans (if_pos hc234)
            refine callV P at_267 (a := a) (argsL := []) (rest := []) (c_obj l Z a0 hw a kc kl ku kv kp kr gc gl gu gv h34 n0 P.low S9 (by rw [gc0]; exact own_Bi _) (by rw [gc1]; exact own_Bi _) (by rw [gc2]; exact own_Bi _) (by rw [ev0]; exact own_Bi _) (by rw [ev1]; exact own_Bi _) (by rw [ev2]; exact own_Bi _)) S9.1 (hw _ (List.mem_of_getElem? (i := 76) rfl)) (hw _ (List.mem_of_getElem? (i := 77) rfl)) (notFace_of_selects (args := #[]) (mvT P.hZ (hw _ (List.mem_of_getElem? (i := 79) rfl)))) (hw _ (List.mem_of_getElem? (i := 79) rfl)) (hw _ (List.mem_of_getElem? (i := 78) rfl)) (hw _ (List.mem_of_getElem? (i := 3) rfl)) (hw _ (List.mem_of_getElem? (i := 80) rfl)) (by decide) pd_4 rfl rfl rfl ⟨by decide, Nat.le_of_ble_eq_true rfl, by decide, by decide⟩ (n := 270) rfl (Ret.on ?_)
            intro T P
            refine dload P at_270 rfl (n := 272) rfl ?_
            refine dcmp P at_272 (v := (0 : Int32)) (by rw [ev0, ev1, ev2, gc0, gc1, gc2]; exact (own_all (own_Bi _) (own_Bi _) (own_Bi _) (own_Bi _) (own_Bi _) (own_Bi _)).2.2) (n := 273) rfl ?_
            refine if0_ne P at_273 (n' := 280) (n := 276) (by decide) rfl (fun hc273 => ?_) (fun hc273 => ?_)
            · -- pc 273 taken
              replace hc273 : ¬ (0 : Int) = (0 : Int) := hc273
              exact absurd hc273 (by decide)
            · -- pc 273 not taken
              replace hc273 : (0 : Int) = (0 : Int) := hc273
              refine iconst P at_276 (x := (1 : Int32)) rfl (n := 277) rfl ?_
              refine goto P at_277 (n := 281) (by decide) ?_
              refine retZ P at_281 (by decide) (by decide) (by decide) ?_
              exact rfl
          · -- pc 234 not taken
            replace hc234 : (0 : Int) ≤ (own_v (FP.i2d (p2.toInt8.toInt32))).toInt := hc234
            refine dload P at_237 rfl (n := 239) rfl ?_
            refine goto P at_239 (n := 244) (by decide) ?_
            refine dstore P at_244 (l' := #[.val (.int p0), .val (.int p1), .val (.int p2), .val (.int q), .val (.double (FP.i2d (p0.toInt8.toInt32))), .second, .val (.double (FP.i2d ((p0 >>> ((8 : Int32) &&& 31)).toInt8.toInt32))), .second, .val (.double (FP.i2d ((p0 >>> ((16 : Int32) &&& 31)).toInt8.toInt32))), .second, .val (.double (FP.i2d (p1.toInt8.toInt32))), .second, .val (.double (FP.i2d ((p1 >>> ((8 : Int32) &&& 31)).toInt8.toInt32))), .second, .val (.double (FP.i2d ((p1 >>> ((16 : Int32) &&& 31)).toInt8.toInt32))), .second, .val (.double (FP.i2d (p2.toInt8.toInt32))), .second, .val (.double (FP.i2d ((p2 >>> ((8 : Int32) &&& 31)).toInt8.toInt32))), .second, .val (.double (FP.i2d ((p2 >>> ((16 : Int32) &&& 31)).toInt8.toInt32))), .second, .val (.double (FP.i2d ((q >>> ((8 : Int32) &&& 31)).toInt8.toInt32))), .second, .val (.double (FP.i2d ((q >>> ((16 : Int32) &&& 31)).toInt8.toInt32))), .second, .val (.int (0 : Int32)), .val (.ref b1), .val (.ref b11), .val (.ref b21), .val (.ref a), .val (.double (FP.i2d ((p0 >>> ((16 : Int32) &&& 31)).toInt8.toInt32))), .second, .val (.double (FP.i2d ((p1 >>> ((16 : Int32) &&& 31)).toInt8.toInt32))), .second, .val (.double (FP.i2d ((p2 >>> ((16 : Int32) &&& 31)).toInt8.toInt32))), .second, .unset, .unset]) rfl (n := 246) rfl ?_
            refine dload P at_246 rfl (n := 248) rfl ?_
            refine dload P at_248 rfl (n := 250) rfl ?_
            refine dmul P at_250 (own_nm (own_Bi _) (own_Bi _)) (n := 251) rfl ?_
            refine dload P at_251 rfl (n := 253) rfl ?_
            refine dload P at_253 rfl (n := 255) rfl ?_
            refine dmul P at_255 (own_nm (own_Bi _) (own_Bi _)) (n := 256) rfl ?_
            refine dadd P at_256 (own_all (own_Bi _) (own_Bi _) (own_Bi _) (own_Bi _) (own_Bi 0) (own_Bi 0)).2.1.1 (n := 257) rfl ?_
            refine dload P at_257 rfl (n := 259) rfl ?_
            refine dload P at_259 rfl (n := 261) rfl ?_
            refine dmul P at_261 (own_nm (own_Bi _) (own_Bi _)) (n := 262) rfl ?_
            refine dadd P at_262 (own_all (own_Bi _) (own_Bi _) (own_Bi _) (own_Bi _) (own_Bi _) (own_Bi _)).2.1.2 (n := 263) rfl ?_
            refine dstore P at_263 (l' := #[.val (.int p0), .val (.int p1), .val (.int p2), .val (.int q), .val (.double (FP.i2d (p0.toInt8.toInt32))), .second, .val (.double (FP.i2d ((p0 >>> ((8 : Int32) &&& 31)).toInt8.toInt32))), .second, .val (.double (FP.i2d ((p0 >>> ((16 : Int32) &&& 31)).toInt8.toInt32))), .second, .val (.double (FP.i2d (p1.toInt8.toInt32))), .second, .val (.double (FP.i2d ((p1 >>> ((8 : Int32) &&& 31)).toInt8.toInt32))), .second, .val (.double (FP.i2d ((p1 >>> ((16 : Int32) &&& 31)).toInt8.toInt32))), .second, .val (.double (FP.i2d (p2.toInt8.toInt32))), .second, .val (.double (FP.i2d ((p2 >>> ((8 : Int32) &&& 31)).toInt8.toInt32))), .second, .val (.double (FP.i2d ((p2 >>> ((16 : Int32) &&& 31)).toInt8.toInt32))), .second, .val (.double (FP.i2d ((q >>> ((8 : Int32) &&& 31)).toInt8.toInt32))), .second, .val (.double (FP.i2d ((q >>> ((16 : Int32) &&& 31)).toInt8.toInt32))), .second, .val (.int (0 : Int32)), .val (.ref b1), .val (.ref b11), .val (.ref b21), .val (.ref a), .val (.double (FP.i2d ((p0 >>> ((16 : Int32) &&& 31)).toInt8.toInt32))), .second, .val (.double (FP.i2d ((p1 >>> ((16 : Int32) &&& 31)).toInt8.toInt32))), .second, .val (.double (FP.i2d ((p2 >>> ((16 : Int32) &&& 31)).toInt8.toInt32))), .second, .val (.double (FP.dadd (FP.dadd (FP.dmul (FP.i2d (p0.toInt8.toInt32)) (FP.i2d ((p0 >>> ((16 : Int32) &&& 31)).toInt8.toInt32))) (FP.dmul (FP.i2d (p1.toInt8.toInt32)) (FP.i2d ((p1 >>> ((16 : Int32) &&& 31)).toInt8.toInt32)))) (FP.dmul (FP.i2d (p2.toInt8.toInt32)) (FP.i2d ((p2 >>> ((16 : Int32) &&& 31)).toInt8.toInt32))))), .second]) rfl (n := 265) rfl ?_
            refine aload P at_265 rfl rfl (n := 267) rfl ?_
            have ev0 : gv 0 = (FP.i2d ((p0 >>> ((16 : Int32) &&& 31)).toInt8.toInt32)) := hv0.trans (if_neg (Int.not_lt.mpr hc171))
            have ev1 : gv 1 = (FP.i2d ((p1 >>> ((16 : Int32) &&& 31)).toInt8.toInt32)) := hv1.trans (if_neg (Int.not_lt.mpr hc218))
            have ev2 : gv 2 = (FP.i2d ((p2 >>> ((16 : Int32) &&& 31)).toInt8.toInt32)) := hv2.trans (if_neg (Int.not_lt.mpr hc234))
            refine callV P at_267 (a := a) (argsL := []) (rest := []) (c_obj l Z a0 hw a kc kl ku kv kp kr gc gl gu gv h34 n0 P.low S9 (by rw [gc0]; exact own_Bi _) (by rw [gc1]; exact own_Bi _) (by rw [gc2]; exact own_Bi _) (by rw [ev0]; exact own_Bi _) (by rw [ev1]; exact own_Bi _) (by rw [ev2]; exact own_Bi _)) S9.1 (hw _ (List.mem_of_getElem? (i := 76) rfl)) (hw _ (List.mem_of_getElem? (i := 77) rfl)) (notFace_of_selects (args := #[]) (mvT P.hZ (hw _ (List.mem_of_getElem? (i := 79) rfl)))) (hw _ (List.mem_of_getElem? (i := 79) rfl)) (hw _ (List.mem_of_getElem? (i := 78) rfl)) (hw _ (List.mem_of_getElem? (i := 3) rfl)) (hw _ (List.mem_of_getElem? (i := 80) rfl)) (by decide) pd_4 rfl rfl rfl ⟨by decide, Nat.le_of_ble_eq_true rfl, by decide, by decide⟩ (n := 270) rfl (Ret.on ?_)
            intro T P
            refine dload P at_270 rfl (n := 272) rfl ?_
            refine dcmp P at_272 (v := (0 : Int32)) (by rw [ev0, ev1, ev2, gc0, gc1, gc2]; exact (own_all (own_Bi _) (own_Bi _) (own_Bi _) (own_Bi _) (own_Bi _) (own_Bi _)).2.2) (n := 273) rfl ?_
            refine if0_ne P at_273 (n' := 280) (n := 276) (by decide) rfl (fun hc273 => ?_) (fun hc273 => ?_)
            · -- pc 273 taken
              replace hc273 : ¬ (0 : Int) = (0 : Int) := hc273
              exact absurd hc273 (by decide)
            · -- pc 273 not taken
              replace hc273 : (0 : Int) = (0 : Int) := hc273
              refine iconst P at_276 (x := (1 : Int32)) rfl (n := 277) rfl ?_
              refine goto P at_277 (n := 281) (by decide) ?_
              refine retZ P at_281 (by decide) (by decide) (by decide) ?_
              exact rfl
      · -- pc 185 not taken
        replace hc185 : ¬ (0 : Int) = (0 : Int) := hc185
        exact absurd hc185 (by decide)
  · -- pc 82 not taken
    replace hc82 : ¬ (q &&& (1 : Int32)).toInt = (0 : Int) := hc82
    refine iconst P at_85 (x := (1 : Int32)) rfl (n := 86) rfl ?_
    refine goto P at_86 (n := 90) (by decide) ?_
    refine istore P at_90 (l' := #[.val (.int p0), .val (.int p1), .val (.int p2), .val (.int q), .val (.double (FP.i2d (p0.toInt8.toInt32))), .second, .val (.double (FP.i2d ((p0 >>> ((8 : Int32) &&& 31)).toInt8.toInt32))), .second, .val (.double (FP.i2d ((p0 >>> ((16 : Int32) &&& 31)).toInt8.toInt32))), .second, .val (.double (FP.i2d (p1.toInt8.toInt32))), .second, .val (.double (FP.i2d ((p1 >>> ((8 : Int32) &&& 31)).toInt8.toInt32))), .second, .val (.double (FP.i2d ((p1 >>> ((16 : Int32) &&& 31)).toInt8.toInt32))), .second, .val (.double (FP.i2d (p2.toInt8.toInt32))), .second, .val (.double (FP.i2d ((p2 >>> ((8 : Int32) &&& 31)).toInt8.toInt32))), .second, .val (.double (FP.i2d ((p2 >>> ((16 : Int32) &&& 31)).toInt8.toInt32))), .second, .val (.double (FP.i2d ((q >>> ((8 : Int32) &&& 31)).toInt8.toInt32))), .second, .val (.double (FP.i2d ((q >>> ((16 : Int32) &&& 31)).toInt8.toInt32))), .second, .val (.int (1 : Int32)), .unset, .unset, .unset, .unset, .unset, .unset, .unset, .unset, .unset, .unset, .unset, .unset]) rfl (n := 92) rfl ?_
    refine iconst P at_92 (x := (3 : Int32)) rfl (n := 93) rfl ?_
    refine newPE P at_93 (ad := "[D") (hw _ (List.mem_of_getElem? (i := 0) rfl)) (k := 3) (cap := 3) ⟨rfl, by decide⟩ (by decide) (by decide) (by decide) (n := 95) rfl ?_
    intro T h36 b35 P X37 g38 lo_b35 A_b35 E_b35
    replace A_b35 : ARD Z h36 b35 3 (fun _ => 0) := A_b35
    refine dup P at_95 rfl (n := 96) rfl ?_
    refine iconst P at_96 (x := (0 : Int32)) rfl (n := 97) rfl ?_
    refine dload P at_97 rfl (n := 99) rfl ?_
    refine stD P at_99 A_b35 (u := 0) ⟨rfl, by decide⟩ lo_b35 (n := 100) rfl ?_
    intro T h39 P W40
    replace E_b35 := Exa.wr W40 E_b35
    replace A_b35 := ARD.set A_b35 W40
    refine dup P at_100 rfl (n := 101) rfl ?_
    refine iconst P at_101 (x := (1 : Int32)) rfl (n := 102) rfl ?_
    refine dload P at_102 rfl (n := 104) rfl ?_
    refine stD P at_104 A_b35 (u := 1) ⟨rfl, by decide⟩ lo_b35 (n := 105) rfl ?_
    intro T h41 P W42
    replace E_b35 := Exa.wr W42 E_b35
    replace A_b35 := ARD.set A_b35 W42
    refine dup P at_105 rfl (n := 106) rfl ?_
    refine iconst P at_106 (x := (2 : Int32)) rfl (n := 107) rfl ?_
    refine dload P at_107 rfl (n := 109) rfl ?_
    refine stD P at_109 A_b35 (u := 2) ⟨rfl, by decide⟩ lo_b35 (n := 110) rfl ?_
    intro T h43 P W44
    replace E_b35 := Exa.wr W44 E_b35
    replace A_b35 := ARD.set A_b35 W44
    refine astore P at_110 rfl (l' := #[.val (.int p0), .val (.int p1), .val (.int p2), .val (.int q), .val (.double (FP.i2d (p0.toInt8.toInt32))), .second, .val (.double (FP.i2d ((p0 >>> ((8 : Int32) &&& 31)).toInt8.toInt32))), .second, .val (.double (FP.i2d ((p0 >>> ((16 : Int32) &&& 31)).toInt8.toInt32))), .second, .val (.double (FP.i2d (p1.toInt8.toInt32))), .second, .val (.double (FP.i2d ((p1 >>> ((8 : Int32) &&& 31)).toInt8.toInt32))), .second, .val (.double (FP.i2d ((p1 >>> ((16 : Int32) &&& 31)).toInt8.toInt32))), .second, .val (.double (FP.i2d (p2.toInt8.toInt32))), .second, .val (.double (FP.i2d ((p2 >>> ((8 : Int32) &&& 31)).toInt8.toInt32))), .second, .val (.double (FP.i2d ((p2 >>> ((16 : Int32) &&& 31)).toInt8.toInt32))), .second, .val (.double (FP.i2d ((q >>> ((8 : Int32) &&& 31)).toInt8.toInt32))), .second, .val (.double (FP.i2d ((q >>> ((16 : Int32) &&& 31)).toInt8.toInt32))), .second, .val (.int (1 : Int32)), .val (.ref b35), .unset, .unset, .unset, .unset, .unset, .unset, .unset, .unset, .unset, .unset, .unset]) rfl (n := 112) rfl ?_
    refine iconst P at_112 (x := (3 : Int32)) rfl (n := 113) rfl ?_
    refine newPE P at_113 (ad := "[D") (hw _ (List.mem_of_getElem? (i := 0) rfl)) (k := 3) (cap := 3) ⟨rfl, by decide⟩ (by decide) (by decide) (by decide) (n := 115) rfl ?_
    intro T h46 b45 P X47 g48 lo_b45 A_b45 E_b45
    have ne_b35_b45 : b35 ≠ b45 := Nat.ne_of_lt (g48 ▸ A_b35.lt)
    replace A_b35 := A_b35.ext X47
    replace E_b35 := Exa.ext X47 E_b35
    replace A_b45 : ARD Z h46 b45 3 (fun _ => 0) := A_b45
    refine dup P at_115 rfl (n := 116) rfl ?_
    refine iconst P at_116 (x := (0 : Int32)) rfl (n := 117) rfl ?_
    refine dload P at_117 rfl (n := 119) rfl ?_
    refine stD P at_119 A_b45 (u := 0) ⟨rfl, by decide⟩ lo_b45 (n := 120) rfl ?_
    intro T h49 P W50
    replace A_b35 := A_b35.other W50 ne_b35_b45
    replace E_b35 := Exa.wr W50 E_b35
    replace E_b45 := Exa.wr W50 E_b45
    replace A_b45 := ARD.set A_b45 W50
    refine dup P at_120 rfl (n := 121) rfl ?_
    refine iconst P at_121 (x := (1 : Int32)) rfl (n := 122) rfl ?_
    refine dload P at_122 rfl (n := 124) rfl ?_
    refine stD P at_124 A_b45 (u := 1) ⟨rfl, by decide⟩ lo_b45 (n := 125) rfl ?_
    intro T h51 P W52
    replace A_b35 := A_b35.other W52 ne_b35_b45
    replace E_b35 := Exa.wr W52 E_b35
    replace E_b45 := Exa.wr W52 E_b45
    replace A_b45 := ARD.set A_b45 W52
    refine dup P at_125 rfl (n := 126) rfl ?_
    refine iconst P at_126 (x := (2 : Int32)) rfl (n := 127) rfl ?_
    refine dload P at_127 rfl (n := 129) rfl ?_
    refine stD P at_129 A_b45 (u := 2) ⟨rfl, by decide⟩ lo_b45 (n := 130) rfl ?_
    intro T h53 P W54
    replace A_b35 := A_b35.other W54 ne_b35_b45
    replace E_b35 := Exa.wr W54 E_b35
    replace E_b45 := Exa.wr W54 E_b45
    replace A_b45 := ARD.set A_b45 W54
    refine astore P at_130 rfl (l' := #[.val (.int p0), .val (.int p1), .val (.int p2), .val (.int q), .val (.double (FP.i2d (p0.toInt8.toInt32))), .second, .val (.double (FP.i2d ((p0 >>> ((8 : Int32) &&& 31)).toInt8.toInt32))), .second, .val (.double (FP.i2d ((p0 >>> ((16 : Int32) &&& 31)).toInt8.toInt32))), .second, .val (.double (FP.i2d (p1.toInt8.toInt32))), .second, .val (.double (FP.i2d ((p1 >>> ((8 : Int32) &&& 31)).toInt8.toInt32))), .second, .val (.double (FP.i2d ((p1 >>> ((16 : Int32) &&& 31)).toInt8.toInt32))), .second, .val (.double (FP.i2d (p2.toInt8.toInt32))), .second, .val (.double (FP.i2d ((p2 >>> ((8 : Int32) &&& 31)).toInt8.toInt32))), .second, .val (.double (FP.i2d ((p2 >>> ((16 : Int32) &&& 31)).toInt8.toInt32))), .second, .val (.double (FP.i2d ((q >>> ((8 : Int32) &&& 31)).toInt8.toInt32))), .second, .val (.double (FP.i2d ((q >>> ((16 : Int32) &&& 31)).toInt8.toInt32))), .second, .val (.int (1 : Int32)), .val (.ref b35), .val (.ref b45), .unset, .unset, .unset, .unset, .unset, .unset, .unset, .unset, .unset, .unset]) rfl (n := 132) rfl ?_
    refine iconst P at_132 (x := (3 : Int32)) rfl (n := 133) rfl ?_
    refine newPE P at_133 (ad := "[D") (hw _ (List.mem_of_getElem? (i := 0) rfl)) (k := 3) (cap := 3) ⟨rfl, by decide⟩ (by decide) (by decide) (by decide) (n := 135) rfl ?_
    intro T h56 b55 P X57 g58 lo_b55 A_b55 E_b55
    have ne_b35_b55 : b35 ≠ b55 := Nat.ne_of_lt (g58 ▸ A_b35.lt)
    have ne_b45_b55 : b45 ≠ b55 := Nat.ne_of_lt (g58 ▸ A_b45.lt)
    replace A_b35 := A_b35.ext X57
    replace E_b35 := Exa.ext X57 E_b35
    replace A_b45 := A_b45.ext X57
    replace E_b45 := Exa.ext X57 E_b45
    replace A_b55 : ARD Z h56 b55 3 (fun _ => 0) := A_b55
    refine dup P at_135 rfl (n := 136) rfl ?_
    refine iconst P at_136 (x := (0 : Int32)) rfl (n := 137) rfl ?_
    refine dload P at_137 rfl (n := 139) rfl ?_
    refine stD P at_139 A_b55 (u := 0) ⟨rfl, by decide⟩ lo_b55 (n := 140) rfl ?_
    intro T h59 P W60
    replace A_b35 := A_b35.other W60 ne_b35_b55
    replace E_b35 := Exa.wr W60 E_b35
    replace A_b45 := A_b45.other W60 ne_b45_b55
    replace E_b45 := Exa.wr W60 E_b45
    replace E_b55 := Exa.wr W60 E_b55
    replace A_b55 := ARD.set A_b55 W60
    refine dup P at_140 rfl (n := 141) rfl ?_
    refine iconst P at_141 (x := (1 : Int32)) rfl (n := 142) rfl ?_
    refine dload P at_142 rfl (n := 144) rfl ?_
    refine stD P at_144 A_b55 (u := 1) ⟨rfl, by decide⟩ lo_b55 (n := 145) rfl ?_
    intro T h61 P W62
    replace A_b35 := A_b35.other W62 ne_b35_b55
    replace E_b35 := Exa.wr W62 E_b35
    replace A_b45 := A_b45.other W62 ne_b45_b55
    replace E_b45 := Exa.wr W62 E_b45
    replace E_b55 := Exa.wr W62 E_b55
    replace A_b55 := ARD.set A_b55 W62
    refine dup P at_145 rfl (n := 146) rfl ?_
    refine iconst P at_146 (x := (2 : Int32)) rfl (n := 147) rfl ?_
    refine dload P at_147 rfl (n := 149) rfl ?_
    refine stD P at_149 A_b55 (u := 2) ⟨rfl, by decide⟩ lo_b55 (n := 150) rfl ?_
    intro T h63 P W64
    replace A_b35 := A_b35.other W64 ne_b35_b55
    replace E_b35 := Exa.wr W64 E_b35
    replace A_b45 := A_b45.other W64 ne_b45_b55
    replace E_b45 := Exa.wr W64 E_b45
    replace E_b55 := Exa.wr W64 E_b55
    replace A_b55 := ARD.set A_b55 W64
    refine astore P at_150 rfl (l' := #[.val (.int p0), .val (.int p1), .val (.int p2), .val (.int q), .val (.double (FP.i2d (p0.toInt8.toInt32))), .second, .val (.double (FP.i2d ((p0 >>> ((8 : Int32) &&& 31)).toInt8.toInt32))), .second, .val (.double (FP.i2d ((p0 >>> ((16 : Int32) &&& 31)).toInt8.toInt32))), .second, .val (.double (FP.i2d (p1.toInt8.toInt32))), .second, .val (.double (FP.i2d ((p1 >>> ((8 : Int32) &&& 31)).toInt8.toInt32))), .second, .val (.double (FP.i2d ((p1 >>> ((16 : Int32) &&& 31)).toInt8.toInt32))), .second, .val (.double (FP.i2d (p2.toInt8.toInt32))), .second, .val (.double (FP.i2d ((p2 >>> ((8 : Int32) &&& 31)).toInt8.toInt32))), .second, .val (.double (FP.i2d ((p2 >>> ((16 : Int32) &&& 31)).toInt8.toInt32))), .second, .val (.double (FP.i2d ((q >>> ((8 : Int32) &&& 31)).toInt8.toInt32))), .second, .val (.double (FP.i2d ((q >>> ((16 : Int32) &&& 31)).toInt8.toInt32))), .second, .val (.int (1 : Int32)), .val (.ref b35), .val (.ref b45), .val (.ref b55), .unset, .unset, .unset, .unset, .unset, .unset, .unset, .unset, .unset]) rfl (n := 152) rfl ?_
    obtain ⟨gc, egc⟩ : ∃ g : Nat → UInt64, g = (ovr (ovr (ovr (fun _ => (0 : UInt64)) 0 (FP.i2d (p0.toInt8.toInt32))) 1 (FP.i2d (p1.toInt8.toInt32))) 2 (FP.i2d (p2.toInt8.toInt32))) := ⟨_, rfl⟩
    rw [← egc] at A_b35
    have gc0 : gc 0 = (FP.i2d (p0.toInt8.toInt32)) := by rw [egc]; rfl
    have gc1 : gc 1 = (FP.i2d (p1.toInt8.toInt32)) := by rw [egc]; rfl
    have gc2 : gc 2 = (FP.i2d (p2.toInt8.toInt32)) := by rw [egc]; rfl
    obtain ⟨gl, egl⟩ : ∃ g : Nat → UInt64, g = (ovr (ovr (ovr (fun _ => (0 : UInt64)) 0 (FP.i2d ((p0 >>> ((8 : Int32) &&& 31)).toInt8.toInt32))) 1 (FP.i2d ((p1 >>> ((8 : Int32) &&& 31)).toInt8.toInt32))) 2 (FP.i2d ((p2 >>> ((8 : Int32) &&& 31)).toInt8.toInt32))) := ⟨_, rfl⟩
    rw [← egl] at A_b45
    have gl0 : gl 0 = (FP.i2d ((p0 >>> ((8 : Int32) &&& 31)).toInt8.toInt32)) := by rw [egl]; rfl
    have gl1 : gl 1 = (FP.i2d ((p1 >>> ((8 : Int32) &&& 31)).toInt8.toInt32)) := by rw [egl]; rfl
    have gl2 : gl 2 = (FP.i2d ((p2 >>> ((8 : Int32) &&& 31)).toInt8.toInt32)) := by rw [egl]; rfl
    obtain ⟨gu, egu⟩ : ∃ g : Nat → UInt64, g = (ovr (ovr (ovr (fun _ => (0 : UInt64)) 0 (FP.i2d ((p0 >>> ((16 : Int32) &&& 31)).toInt8.toInt32))) 1 (FP.i2d ((p1 >>> ((16 : Int32) &&& 31)).toInt8.toInt32))) 2 (FP.i2d ((p2 >>> ((16 : Int32) &&& 31)).toInt8.toInt32))) := ⟨_, rfl⟩
    rw [← egu] at A_b55
    have gu0 : gu 0 = (FP.i2d ((p0 >>> ((16 : Int32) &&& 31)).toInt8.toInt32)) := by rw [egu]; rfl
    have gu1 : gu 1 = (FP.i2d ((p1 >>> ((16 : Int32) &&& 31)).toInt8.toInt32)) := by rw [egu]; rfl
    have gu2 : gu 2 = (FP.i2d ((p2 >>> ((16 : Int32) &&& 31)).toInt8.toInt32)) := by rw [egu]; rfl
    refine newO P at_152 (hw _ (List.mem_of_getElem? (i := 1) rfl)) (hw _ (List.mem_of_getElem? (i := 2) rfl)) (hw _ (List.mem_of_getElem? (i := 3) rfl)) (by decide) (by decide) (n := 155) rfl ?_
    intro T h65 a P X66 g67 lo_a E_a D_a
    have ne_b35_a : b35 ≠ a := Nat.ne_of_lt (g67 ▸ A_b35.lt)
    have ne_b45_a : b45 ≠ a := Nat.ne_of_lt (g67 ▸ A_b45.lt)
    have ne_b55_a : b55 ≠ a := Nat.ne_of_lt (g67 ▸ A_b55.lt)
    replace A_b35 := A_b35.ext X66
    replace E_b35 := Exa.ext X66 E_b35
    replace A_b45 := A_b45.ext X66
    replace E_b45 := Exa.ext X66 E_b45
    replace A_b55 := A_b55.ext X66
    replace E_b55 := Exa.ext X66 E_b55
    have F_a_rowColumns := D_a (Or.inl (hw _ (List.mem_of_getElem? (i := 13) rfl))) (ty := (.array (.array .int))) (by decide)
    have F_a_rowCoefficients := D_a (Or.inl (hw _ (List.mem_of_getElem? (i := 17) rfl))) (ty := (.array (.array .double))) (by decide)
    have F_a_bound := D_a (Or.inl (hw _ (List.mem_of_getElem? (i := 19) rfl))) (ty := (.array .double)) (by decide)
    have F_a_slack := D_a (Or.inl (hw _ (List.mem_of_getElem? (i := 21) rfl))) (ty := (.array .double)) (by decide)
    have F_a_rowPlace := D_a (Or.inl (hw _ (List.mem_of_getElem? (i := 24) rfl))) (ty := (.array .int)) (by decide)
    have F_a_tight := D_a (Or.inl (hw _ (List.mem_of_getElem? (i := 26) rfl))) (ty := (.array .int)) (by decide)
    have F_a_basic := D_a (Or.inl (hw _ (List.mem_of_getElem? (i := 28) rfl))) (ty := (.array .int)) (by decide)
    have F_a_inverse := D_a (Or.inl (hw _ (List.mem_of_getElem? (i := 31) rfl))) (ty := (.array (.array .double))) (by decide)
    have F_a_price := D_a (Or.inl (hw _ (List.mem_of_getElem? (i := 33) rfl))) (ty := (.array .double)) (by decide)
    have F_a_pivotSlack := D_a (Or.inl (hw _ (List.mem_of_getElem? (i := 35) rfl))) (ty := (.array .double)) (by decide)
    have F_a_columns := D_a (Or.inr (hw _ (List.mem_of_getElem? (i := 37) rfl))) (ty := .int) (by decide)
    have F_a_cost := D_a (Or.inr (hw _ (List.mem_of_getElem? (i := 47) rfl))) (ty := (.array .double)) (by decide)
    have F_a_lower := D_a (Or.inr (hw _ (List.mem_of_getElem? (i := 49) rfl))) (ty := (.array .double)) (by decide)
    have F_a_upper := D_a (Or.inr (hw _ (List.mem_of_getElem? (i := 51) rfl))) (ty := (.array .double)) (by decide)
    have F_a_value := D_a (Or.inr (hw _ (List.mem_of_getElem? (i := 53) rfl))) (ty := (.array .double)) (by decide)
    have F_a_columnPlace := D_a (Or.inr (hw _ (List.mem_of_getElem? (i := 55) rfl))) (ty := (.array .int)) (by decide)
    have F_a_columnRows := D_a (Or.inl (hw _ (List.mem_of_getElem? (i := 62) rfl))) (ty := (.array (.array .int))) (by decide)
    have F_a_columnCoefficients := D_a (Or.inl (hw _ (List.mem_of_getElem? (i := 64) rfl))) (ty := (.array (.array .double))) (by decide)
    have F_a_columnLengths := D_a (Or.inl (hw _ (List.mem_of_getElem? (i := 66) rfl))) (ty := (.array .int)) (by decide)
    have F_a_reduced := D_a (Or.inr (hw _ (List.mem_of_getElem? (i := 68) rfl))) (ty := (.array .double)) (by decide)
    have F_a_pivotRow := D_a (Or.inr (hw _ (List.mem_of_getElem? (i := 70) rfl))) (ty := (.array .double)) (by decide)
    refine dup P at_155 rfl (n := 156) rfl ?_
    refine aload P at_156 rfl rfl (n := 158) rfl ?_
    refine aload P at_158 rfl rfl (n := 160) rfl ?_
    refine aload P at_160 rfl rfl (n := 162) rfl ?_
    refine callN P at_162 (a := a) (argsL := [(.ref b35), (.ref b45), (.ref b55)]) (rest := [(.ref a)]) (c_new l Z a0 hw a b35 b45 b55 gc gl gu h65 n0 P.low E_a F_a_rowColumns F_a_rowCoefficients F_a_bound F_a_slack F_a_rowPlace F_a_tight F_a_basic F_a_inverse F_a_price F_a_pivotSlack F_a_columns F_a_cost F_a_lower F_a_upper F_a_value F_a_columnPlace F_a_columnRows F_a_columnCoefficients F_a_columnLengths F_a_reduced F_a_pivotRow A_b35 A_b45 A_b55 E_b35 E_b45 E_b55 ne_b35_a ne_b45_a ne_b55_a lo_a) rfl (hw _ (List.mem_of_getElem? (i := 4) rfl)) (hw _ (List.mem_of_getElem? (i := 5) rfl)) (hw _ (List.mem_of_getElem? (i := 3) rfl)) (hw _ (List.mem_of_getElem? (i := 6) rfl)) (by decide) pd_2 rfl rfl rfl ⟨by decide, Nat.le_of_ble_eq_true rfl, by decide, by decide⟩ (n := 165) rfl ?_
    rintro T h68 v P ⟨rfl, kc, kl, ku, kv, kp, kr, gv, S9, hv0, hv1, hv2⟩
    show Jvm.Own.Ends p e below s room_1 n0 (fun v _ => v = some (.int 1)) T (mkF m 165 #[.val (.int p0), .val (.int p1), .val (.int p2), .val (.int q), .val (.double (FP.i2d (p0.toInt8.toInt32))), .second, .val (.double (FP.i2d ((p0 >>> ((8 : Int32) &&& 31)).toInt8.toInt32))), .second, .val (.double (FP.i2d ((p0 >>> ((16 : Int32) &&& 31)).toInt8.toInt32))), .second, .val (.double (FP.i2d (p1.toInt8.toInt32))), .second, .val (.double (FP.i2d ((p1 >>> ((8 : Int32) &&& 31)).toInt8.toInt32))), .second, .val (.double (FP.i2d ((p1 >>> ((16 : Int32) &&& 31)).toInt8.toInt32))), .second, .val (.double (FP.i2d (p2.toInt8.toInt32))), .second, .val (.double (FP.i2d ((p2 >>> ((8 : Int32) &&& 31)).toInt8.toInt32))), .second, .val (.double (FP.i2d ((p2 >>> ((16 : Int32) &&& 31)).toInt8.toInt32))), .second, .val (.double (FP.i2d ((q >>> ((8 : Int32) &&& 31)).toInt8.toInt32))), .second, .val (.double (FP.i2d ((q >>> ((16 : Int32) &&& 31)).toInt8.toInt32))), .second, .val (.int (1 : Int32)), .val (.ref b35), .val (.ref b45), .val (.ref b55), .unset, .unset, .unset, .unset, .unset, .unset, .unset, .unset, .unset] [(.ref a)])
    rw [gc0, gl0, gu0] at hv0
    rw [gc1, gl1, gu1] at hv1
    rw [gc2, gl2, gu2] at hv2
    refine astore P at_165 rfl (l' := #[.val (.int p0), .val (.int p1), .val (.int p2), .val (.int q), .val (.double (FP.i2d (p0.toInt8.toInt32))), .second, .val (.double (FP.i2d ((p0 >>> ((8 : Int32) &&& 31)).toInt8.toInt32))), .second, .val (.double (FP.i2d ((p0 >>> ((16 : Int32) &&& 31)).toInt8.toInt32))), .second, .val (.double (FP.i2d (p1.toInt8.toInt32))), .second, .val (.double (FP.i2d ((p1 >>> ((8 : Int32) &&& 31)).toInt8.toInt32))), .second, .val (.double (FP.i2d ((p1 >>> ((16 : Int32) &&& 31)).toInt8.toInt32))), .second, .val (.double (FP.i2d (p2.toInt8.toInt32))), .second, .val (.double (FP.i2d ((p2 >>> ((8 : Int32) &&& 31)).toInt8.toInt32))), .second, .val (.double (FP.i2d ((p2 >>> ((16 : Int32) &&& 31)).toInt8.toInt32))), .second, .val (.double (FP.i2d ((q >>> ((8 : Int32) &&& 31)).toInt8.toInt32))), .second, .val (.double (FP.i2d ((q >>> ((16 : Int32) &&& 31)).toInt8.toInt32))), .second, .val (.int (1 : Int32)), .val (.ref b35), .val (.ref b45), .val (.ref b55), .val (.ref a), .unset, .unset, .unset, .unset, .unset, .unset, .unset, .unset]) rfl (n := 167) rfl ?_
    refine dload P at_167 rfl (n := 169) rfl ?_
    refine dconst0 P at_169 (n := 170) rfl ?_
    refine dcmp P at_170 (v := (own_v (FP.i2d (p0.toInt8.toInt32)))) rfl (n := 171) rfl ?_
    refine if0_lt P at_171 (n' := 179) (n := 174) (by decide) rfl (fun hc171 => ?_) (fun hc171 => ?_)
    · -- pc 171 taken
      replace hc171 : (own_v (FP.i2d (p0.toInt8.toInt32))).toInt < (0 : Int) := hc171
      refine dload P at_179 rfl (n := 181) rfl ?_
      refine dstore P at_181 (l' := #[.val (.int p0), .val (.int p1), .val (.int p2), .val (.int q), .val (.double (FP.i2d (p0.toInt8.toInt32))), .second, .val (.double (FP.i2d ((p0 >>> ((8 : Int32) &&& 31)).toInt8.toInt32))), .second, .val (.double (FP.i2d ((p0 >>> ((16 : Int32) &&& 31)).toInt8.toInt32))), .second, .val (.double (FP.i2d (p1.toInt8.toInt32))), .second, .val (.double (FP.i2d ((p1 >>> ((8 : Int32) &&& 31)).toInt8.toInt32))), .second, .val (.double (FP.i2d ((p1 >>> ((16 : Int32) &&& 31)).toInt8.toInt32))), .second, .val (.double (FP.i2d (p2.toInt8.toInt32))), .second, .val (.double (FP.i2d ((p2 >>> ((8 : Int32) &&& 31)).toInt8.toInt32))), .second, .val (.double (FP.i2d ((p2 >>> ((16 : Int32) &&& 31)).toInt8.toInt32))), .second, .val (.double (FP.i2d ((q >>> ((8 : Int32) &&& 31)).toInt8.toInt32))), .second, .val (.double (FP.i2d ((q >>> ((16 : Int32) &&& 31)).toInt8.toInt32))), .second, .val (.int (1 : Int32)), .val (.ref b35), .val (.ref b45), .val (.ref b55), .val (.ref a), .val (.double (FP.i2d ((p0 >>> ((8 : Int32) &&& 31)).toInt8.toInt32))), .second, .unset, .unset, .unset, .unset, .unset, .unset]) rfl (n := 183) rfl ?_
      refine iload P at_183 rfl (n := 185) rfl ?_
      refine if0_eq P at_185 (n' := 214) (n := 188) (by decide) rfl (fun hc185 => ?_) (fun hc185 => ?_)
      · -- pc 185 taken
        replace hc185 : (1 : Int) = (0 : Int) := hc185
        exact absurd hc185 (by decide)
      · -- pc 185 not taken
        replace hc185 : ¬ (1 : Int) = (0 : Int) := hc185
        refine aload P at_188 rfl rfl (n := 190) rfl ?_
        refine iconst P at_190 (x := (0 : Int32)) rfl (n := 191) rfl ?_
        refine dload P at_191 rfl (n := 193) rfl ?_
        refine dload P at_193 rfl (n := 195) rfl ?_
        refine callV P at_195 (a := a) (argsL := [(.int (0 : Int32)), (.double (FP.i2d ((q >>> ((8 : Int32) &&& 31)).toInt8.toInt32))), (.double (FP.i2d ((q >>> ((16 : Int32) &&& 31)).toInt8.toInt32)))]) (rest := []) (c_set l Z a0 hw a (0 : Int32) (FP.i2d ((q >>> ((8 : Int32) &&& 31)).toInt8.toInt32)) (FP.i2d ((q >>> ((16 : Int32) &&& 31)).toInt8.toInt32)) kc kl ku kv kp kr gc gl gu gv h68 n0 P.low S9 rfl) S9.1 (hw _ (List.mem_of_getElem? (i := 71) rfl)) (hw _ (List.mem_of_getElem? (i := 72) rfl)) (notFace_of_selects (args := #[]) (mvT P.hZ (hw _ (List.mem_of_getElem? (i := 74) rfl)))) (hw _ (List.mem_of_getElem? (i := 74) rfl)) (hw _ (List.mem_of_getElem? (i := 73) rfl)) (hw _ (List.mem_of_getElem? (i := 3) rfl)) (hw _ (List.mem_of_getElem? (i := 75) rfl)) (by decide) pd_3 rfl rfl rfl ⟨by decide, Nat.le_of_ble_eq_true rfl, by decide, by decide⟩ (n := 198) rfl ?_
        rintro T h69 v P ⟨rfl, gl9, gu9, gv9, S9, hv0, hw1, hw2⟩
        show Jvm.Own.Ends p e below s room_1 n0 (fun v _ => v = some (.int 1)) T (mkF m 198 #[.val (.int p0), .val (.int p1), .val (.int p2), .val (.int q), .val (.double (FP.i2d (p0.toInt8.toInt32))), .second, .val (.double (FP.i2d ((p0 >>> ((8 : Int32) &&& 31)).toInt8.toInt32))), .second, .val (.double (FP.i2d ((p0 >>> ((16 : Int32) &&& 31)).toInt8.toInt32))), .second, .val (.double (FP.i2d (p1.toInt8.toInt32))), .second, .val (.double (FP.i2d ((p1 >>> ((8 : Int32) &&& 31)).toInt8.toInt32))), .second, .val (.double (FP.i2d ((p1 >>> ((16 : Int32) &&& 31)).toInt8.toInt32))), .second, .val (.double (FP.i2d (p2.toInt8.toInt32))), .second, .val (.double (FP.i2d ((p2 >>> ((8 : Int32) &&& 31)).toInt8.toInt32))), .second, .val (.double (FP.i2d ((p2 >>> ((16 : Int32) &&& 31)).toInt8.toInt32))), .second, .val (.double (FP.i2d ((q >>> ((8 : Int32) &&& 31)).toInt8.toInt32))), .second, .val (.double (FP.i2d ((q >>> ((16 : Int32) &&& 31)).toInt8.toInt32))), .second, .val (.int (1 : Int32)), .val (.ref b35), .val (.ref b45), .val (.ref b55), .val (.ref a), .val (.double (FP.i2d ((p0 >>> ((8 : Int32) &&& 31)).toInt8.toInt32))), .second, .unset, .unset, .unset, .unset, .unset, .unset] [])
        rw [gc0] at hv0
        rw [hv1] at hw1
        rw [hv2] at hw2
        replace hv1 := hw1
        replace hv2 := hw2
        refine dload P at_198 rfl (n := 200) rfl ?_
        refine dconst0 P at_200 (n := 201) rfl ?_
        refine dcmp P at_201 (v := (own_v (FP.i2d (p0.toInt8.toInt32)))) rfl (n := 202) rfl ?_
        refine if0_lt P at_202 (n' := 210) (n := 205) (by decide) rfl (fun hc202 => ?_) (fun hc202 => ?_)
        · -- pc 202 taken
          replace hc202 : (own_v (FP.i2d (p0.toInt8.toInt32))).toInt < (0 : Int) := hc202
          refine dload P at_210 rfl (n := 212) rfl ?_
          refine dstore P at_212 (l' := #[.val (.int p0), .val (.int p1), .val (.int p2), .val (.int q), .val (.double (FP.i2d (p0.toInt8.toInt32))), .second, .val (.double (FP.i2d ((p0 >>> ((8 : Int32) &&& 31)).toInt8.toInt32))), .second, .val (.double (FP.i2d ((p0 >>> ((16 : Int32) &&& 31)).toInt8.toInt32))), .second, .val (.double (FP.i2d (p1.toInt8.toInt32))), .second, .val (.double (FP.i2d ((p1 >>> ((8 : Int32) &&& 31)).toInt8.toInt32))), .second, .val (.double (FP.i2d ((p1 >>> ((16 : Int32) &&& 31)).toInt8.toInt32))), .second, .val (.double (FP.i2d (p2.toInt8.toInt32))), .second, .val (.double (FP.i2d ((p2 >>> ((8 : Int32) &&& 31)).toInt8.toInt32))), .second, .val (.double (FP.i2d ((p2 >>> ((16 : Int32) &&& 31)).toInt8.toInt32))), .second, .val (.double (FP.i2d ((q >>> ((8 : Int32) &&& 31)).toInt8.toInt32))), .second, .val (.double (FP.i2d ((q >>> ((16 : Int32) &&& 31)).toInt8.toInt32))), .second, .val (.int (1 : Int32)), .val (.ref b35), .val (.ref b45), .val (.ref b55), .val (.ref a), .val (.double (FP.i2d ((q >>> ((8 : Int32) &&& 31)).toInt8.toInt32))), .second, .unset, .unset, .unset, .unset, .unset, .unset]) rfl (n := 214) rfl ?_
          refine dload P at_214 rfl (n := 216) rfl ?_
          refine dconst0 P at_216 (n := 217) rfl ?_
          refine dcmp P at_217 (v := (own_v (FP.i2d (p1.toInt8.toInt32)))) rfl (n := 218) rfl ?_
          refine if0_lt P at_218 (n' := 226) (n := 221) (by decide) rfl (fun hc218 => ?_) (fun hc218 => ?_)
          · -- pc 218 taken
            replace hc218 : (own_v (FP.i2d (p1.toInt8.toInt32))).toInt < (0 : Int) := hc218
            refine dload P at_226 rfl (n := 228) rfl ?_
            refine dstore P at_228 (l' := #[.val (.int p0), .val (.int p1), .val (.int p2), .val (.int q), .val (.double (FP.i2d (p0.toInt8.toInt32))), .second, .val (.double (FP.i2d ((p0 >>> ((8 : Int32) &&& 31)).toInt8.toInt32))), .second, .val (.double (FP.i2d ((p0 >>> ((16 : Int32) &&& 31)).toInt8.toInt32))), .second, .val (.double (FP.i2d (p1.toInt8.toInt32))), .second, .val (.double (FP.i2d ((p1 >>> ((8 : Int32) &&& 31)).toInt8.toInt32))), .second, .val (.double (FP.i2d ((p1 >>> ((16 : Int32) &&& 31)).toInt8.toInt32))), .second, .val (.double (FP.i2d (p2.toInt8.toInt32))), .second, .val (.double (FP.i2d ((p2 >>> ((8 : Int32) &&& 31)).toInt8.toInt32))), .second, .val (.double (FP.i2d ((p2 >>> ((16 : Int32) &&& 31)).toInt8.toInt32))), .second, .val (.double (FP.i2d ((q >>> ((8 : Int32) &&& 31)).toInt8.toInt32))), .second, .val (.double (FP.i2d ((q >>> ((16 : Int32) &&& 31)).toInt8.toInt32))), .second, .val (.int (1 : Int32)), .val (.ref b35), .val (.ref b45), .val (.ref b55), .val (.ref a), .val (.double (FP.i2d ((q >>> ((8 : Int32) &&& 31)).toInt8.toInt32))), .second, .val (.double (FP.i2d ((p1 >>> ((8 : Int32) &&& 31)).toInt8.toInt32))), .second, .unset, .unset, .unset, .unset]) rfl (n := 230) rfl ?_
            refine dload P at_230 rfl (n := 232) rfl ?_
            refine dconst0 P at_232 (n := 233) rfl ?_
            refine dcmp P at_233 (v := (own_v (FP.i2d (p2.toInt8.toInt32)))) rfl (n := 234) rfl ?_
            refine if0_lt P at_234 (n' := 242) (n := 237) (by decide) rfl (fun hc234 => ?_) (fun hc234 => ?_)
            · -- pc 234 taken
              replace hc234 : (own_v (FP.i2d (p2.toInt8.toInt32))).toInt < (0 : Int) := hc234
              refine dload P at_242 rfl (n := 244) rfl ?_
              refine dstore P at_244 (l' := #[.val (.int p0), .val (.int p1), .val (.int p2), .val (.int q), .val (.double (FP.i2d (p0.toInt8.toInt32))), .second, .val (.double (FP.i2d ((p0 >>> ((8 : Int32) &&& 31)).toInt8.toInt32))), .second, .val (.double (FP.i2d ((p0 >>> ((16 : Int32) &&& 31)).toInt8.toInt32))), .second, .val (.double (FP.i2d (p1.toInt8.toInt32))), .second, .val (.double (FP.i2d ((p1 >>> ((8 : Int32) &&& 31)).toInt8.toInt32))), .second, .val (.double (FP.i2d ((p1 >>> ((16 : Int32) &&& 31)).toInt8.toInt32))), .second, .val (.double (FP.i2d (p2.toInt8.toInt32))), .second, .val (.double (FP.i2d ((p2 >>> ((8 : Int32) &&& 31)).toInt8.toInt32))), .second, .val (.double (FP.i2d ((p2 >>> ((16 : Int32) &&& 31)).toInt8.toInt32))), .second, .val (.double (FP.i2d ((q >>> ((8 : Int32) &&& 31)).toInt8.toInt32))), .second, .val (.double (FP.i2d ((q >>> ((16 : Int32) &&& 31)).toInt8.toInt32))), .second, .val (.int (1 : Int32)), .val (.ref b35), .val (.ref b45), .val (.ref b55), .val (.ref a), .val (.double (FP.i2d ((q >>> ((8 : Int32) &&& 31)).toInt8.toInt32))), .second, .val (.double (FP.i2d ((p1 >>> ((8 : Int32) &&& 31)).toInt8.toInt32))), .second, .val (.double (FP.i2d ((p2 >>> ((8 : Int32) &&& 31)).toInt8.toInt32))), .second, .unset, .unset]) rfl (n := 246) rfl ?_
              refine dload P at_246 rfl (n := 248) rfl ?_
              refine dload P at_248 rfl (n := 250) rfl ?_
              refine dmul P at_250 (own_nm (own_Bi _) (own_Bi _)) (n := 251) rfl ?_
              refine dload P at_251 rfl (n := 253) rfl ?_
              refine dload P at_253 rfl (n := 255) rfl ?_
              refine dmul P at_255 (own_nm (own_Bi _) (own_Bi _)) (n := 256) rfl ?_
              refine dadd P at_256 (own_all (own_Bi _) (own_Bi _) (own_Bi _) (own_Bi _) (own_Bi 0) (own_Bi 0)).2.1.1 (n := 257) rfl ?_
              refine dload P at_257 rfl (n := 259) rfl ?_
              refine dload P at_259 rfl (n := 261) rfl ?_
              refine dmul P at_261 (own_nm (own_Bi _) (own_Bi _)) (n := 262) rfl ?_
              refine dadd P at_262 (own_all (own_Bi _) (own_Bi _) (own_Bi _) (own_Bi _) (own_Bi _) (own_Bi _)).2.1.2 (n := 263) rfl ?_
              refine dstore P at_263 (l' := #[.val (.int p0), .val (.int p1), .val (.int p2), .val (.int q), .val (.double (FP.i2d (p0.toInt8.toInt32))), .second, .val (.double (FP.i2d ((p0 >>> ((8 : Int32) &&& 31)).toInt8.toInt32))), .second, .val (.double (FP.i2d ((p0 >>> ((16 : Int32) &&& 31)).toInt8.toInt32))), .second, .val (.double (FP.i2d (p1.toInt8.toInt32))), .second, .val (.double (FP.i2d ((p1 >>> ((8 : Int32) &&& 31)).toInt8.toInt32))), .second, .val (.double (FP.i2d ((p1 >>> ((16 : Int32) &&& 31)).toInt8.toInt32))), .second, .val (.double (FP.i2d (p2.toInt8.toInt32))), .second, .val (.double (FP.i2d ((p2 >>> ((8 : Int32) &&& 31)).toInt8.toInt32))), .second, .val (.double (FP.i2d ((p2 >>> ((16 : Int32) &&& 31)).toInt8.toInt32))), .second, .val (.double (FP.i2d ((q >>> ((8 : Int32) &&& 31)).toInt8.toInt32))), .second, .val (.double (FP.i2d ((q >>> ((16 : Int32) &&& 31)).toInt8.toInt32))), .second, .val (.int (1 : Int32)), .val (.ref b35), .val (.ref b45), .val (.ref b55), .val (.ref a), .val (.double (FP.i2d ((q >>> ((8 : Int32) &&& 31)).toInt8.toInt32))), .second, .val (.double (FP.i2d ((p1 >>> ((8 : Int32) &&& 31)).toInt8.toInt32))), .second, .val (.double (FP.i2d ((p2 >>> ((8 : Int32) &&& 31)).toInt8.toInt32))), .second, .val (.double (FP.dadd (FP.dadd (FP.dmul (FP.i2d (p0.toInt8.toInt32)) (FP.i2d ((q >>> ((8 : Int32) &&& 31)).toInt8.toInt32))) (FP.dmul (FP.i2d (p1.toInt8.toInt32)) (FP.i2d ((p1 >>> ((8 : Int32) &&& 31)).toInt8.toInt32)))) (FP.dmul (FP.i2d (p2.toInt8.toInt32)) (FP.i2d ((p2 >>> ((8 : Int32) &&& 31)).toInt8.toInt32))))), .second]) rfl (n := 265) rfl ?_
              refine aload P at_265 rfl rfl (n := 267) rfl ?_
              have ev0 : gv9 0 = (FP.i2d ((q >>> ((8 : Int32) &&& 31)).toInt8.toInt32)) := hv0.trans (if_pos hc202)
              have ev1 : gv9 1 = (FP.i2d ((p1 >>> ((8 : Int32) &&& 31)).toInt8.toInt32)) := hv1.trans (if_pos hc218)
              have ev2 : gv9 2 = (FP.i2d ((p2 >>> ((8 : Int32) &&& 31)).toInt8.toInt32)) := hv2.trans (if_pos hc234)
              refine callV P at_267 (a := a) (argsL := []) (rest := []) (c_obj l Z a0 hw a kc kl ku kv kp kr gc gl9 gu9 gv9 h69 n0 P.low S9 (by rw [gc0]; exact own_Bi _) (by rw [gc1]; exact own_Bi _) (by rw [gc2]; exact own_Bi _) (by rw [ev0]; exact own_Bi _) (by rw [ev1]; exact own_Bi _) (by rw [ev2]; exact own_Bi _)) S9.1 (hw _ (List.mem_of_getElem? (i := 76) rfl)) (hw _ (List.mem_of_getElem? (i := 77) rfl)) (notFace_of_selects (args := #[]) (mvT P.hZ (hw _ (List.mem_of_getElem? (i := 79) rfl)))) (hw _ (List.mem_of_getElem? (i := 79) rfl)) (hw _ (List.mem_of_getElem? (i := 78) rfl)) (hw _ (List.mem_of_getElem? (i := 3) rfl)) (hw _ (List.mem_of_getElem? (i := 80) rfl)) (by decide) pd_4 rfl rfl rfl ⟨by decide, Nat.le_of_ble_eq_true rfl, by decide, by decide⟩ (n := 270) rfl (Ret.on ?_)
              intro T P
              refine dload P at_270 rfl (n := 272) rfl ?_
              refine dcmp P at_272 (v := (0 : Int32)) (by rw [ev0, ev1, ev2, gc0, gc1, gc2]; exact (own_all (own_Bi _) (own_Bi _) (own_Bi _) (own_Bi _) (own_Bi _) (own_Bi _)).2.2) (n := 273) rfl ?_
              refine if0_ne P at_273 (n' := 280) (n := 276) (by decide) rfl (fun hc273 => ?_) (fun hc273 => ?_)
              · -- pc 273 taken
                replace hc273 : ¬ (0 : Int) = (0 : Int) := hc273
                exact absurd hc273 (by decide)
              · -- pc 273 not taken
                replace hc273 : (0 : Int) = (0 : Int) := hc273
                refine iconst P at_276 (x := (1 : Int32)) rfl (n := 277) rfl ?_
                refine goto P at_277 (n := 281) (by decide) ?_
                refine retZ P at_281 (by decide) (by decide) (by decide) ?_
                exact rfl
            · -- pc 234 not taken
              replace hc234 : (0 : Int) ≤ (own_v (FP.i2d (p2.toInt8.toInt32))).toInt := hc234
              refine dload P at_237 rfl (n := 239) rfl ?_
              refine goto P at_239 (n := 244) (by decide) ?_
              refine dstore P at_244 (l' := #[.val (.int p0), .val (.int p1), .val (.int p2), .val (.int q), .val (.double (FP.i2d (p0.toInt8.toInt32))), .second, .val (.double (FP.i2d ((p0 >>> ((8 : Int32) &&& 31)).toInt8.toInt32))), .second, .val (.double (FP.i2d ((p0 >>> ((16 : Int32) &&& 31)).toInt8.toInt32))), .second, .val (.double (FP.i2d (p1.toInt8.toInt32))), .second, .val (.double (FP.i2d ((p1 >>> ((8 : Int32) &&& 31)).toInt8.toInt32))), .second, .val (.double (FP.i2d ((p1 >>> ((16 : Int32) &&& 31)).toInt8.toInt32))), .second, .val (.double (FP.i2d (p2.toInt8.toInt32))), .second, .val (.double (FP.i2d ((p2 >>> ((8 : Int32) &&& 31)).toInt8.toInt32))), .second, .val (.double (FP.i2d ((p2 >>> ((16 : Int32) &&& 31)).toInt8.toInt32))), .second, .val (.double (FP.i2d ((q >>> ((8 : Int32) &&& 31)).toInt8.toInt32))), .second, .val (.double (FP.i2d ((q >>> ((16 : Int32) &&& 31)).toInt8.toInt32))), .second, .val (.int (1 : Int32)), .val (.ref b35), .val (.ref b45), .val (.ref b55), .val (.ref a), .val (.double (FP.i2d ((q >>> ((8 : Int32) &&& 31)).toInt8.toInt32))), .second, .val (.double (FP.i2d ((p1 >>> ((8 : Int32) &&& 31)).toInt8.toInt32))), .second, .val (.double (FP.i2d ((p2 >>> ((16 : Int32) &&& 31)).toInt8.toInt32))), .second, .unset, .unset]) rfl (n := 246) rfl ?_
              refine dload P at_246 rfl (n := 248) rfl ?_
              refine dload P at_248 rfl (n := 250) rfl ?_
              refine dmul P at_250 (own_nm (own_Bi _) (own_Bi _)) (n := 251) rfl ?_
              refine dload P at_251 rfl (n := 253) rfl ?_
              refine dload P at_253 rfl (n := 255) rfl ?_
              refine dmul P at_255 (own_nm (own_Bi _) (own_Bi _)) (n := 256) rfl ?_
              refine dadd P at_256 (own_all (own_Bi _) (own_Bi _) (own_Bi _) (own_Bi _) (own_Bi 0) (own_Bi 0)).2.1.1 (n := 257) rfl ?_
              refine dload P at_257 rfl (n := 259) rfl ?_
              refine dload P at_259 rfl (n := 261) rfl ?_
              refine dmul P at_261 (own_nm (own_Bi _) (own_Bi _)) (n := 262) rfl ?_
              refine dadd P at_262 (own_all (own_Bi _) (own_Bi _) (own_Bi _) (own_Bi _) (own_Bi _) (own_Bi _)).2.1.2 (n := 263) rfl ?_
              refine dstore P at_263 (l' := #[.val (.int p0), .val (.int p1), .val (.int p2), .val (.int q), .val (.double (FP.i2d (p0.toInt8.toInt32))), .second, .val (.double (FP.i2d ((p0 >>> ((8 : Int32) &&& 31)).toInt8.toInt32))), .second, .val (.double (FP.i2d ((p0 >>> ((16 : Int32) &&& 31)).toInt8.toInt32))), .second, .val (.double (FP.i2d (p1.toInt8.toInt32))), .second, .val (.double (FP.i2d ((p1 >>> ((8 : Int32) &&& 31)).toInt8.toInt32))), .second, .val (.double (FP.i2d ((p1 >>> ((16 : Int32) &&& 31)).toInt8.toInt32))), .second, .val (.double (FP.i2d (p2.toInt8.toInt32))), .second, .val (.double (FP.i2d ((p2 >>> ((8 : Int32) &&& 31)).toInt8.toInt32))), .second, .val (.double (FP.i2d ((p2 >>> ((16 : Int32) &&& 31)).toInt8.toInt32))), .second, .val (.double (FP.i2d ((q >>> ((8 : Int32) &&& 31)).toInt8.toInt32))), .second, .val (.double (FP.i2d ((q >>> ((16 : Int32) &&& 31)).toInt8.toInt32))), .second, .val (.int (1 : Int32)), .val (.ref b35), .val (.ref b45), .val (.ref b55), .val (.ref a), .val (.double (FP.i2d ((q >>> ((8 : Int32) &&& 31)).toInt8.toInt32))), .second, .val (.double (FP.i2d ((p1 >>> ((8 : Int32) &&& 31)).toInt8.toInt32))), .second, .val (.double (FP.i2d ((p2 >>> ((16 : Int32) &&& 31)).toInt8.toInt32))), .second, .val (.double (FP.dadd (FP.dadd (FP.dmul (FP.i2d (p0.toInt8.toInt32)) (FP.i2d ((q >>> ((8 : Int32) &&& 31)).toInt8.toInt32))) (FP.dmul (FP.i2d (p1.toInt8.toInt32)) (FP.i2d ((p1 >>> ((8 : Int32) &&& 31)).toInt8.toInt32)))) (FP.dmul (FP.i2d (p2.toInt8.toInt32)) (FP.i2d ((p2 >>> ((16 : Int32) &&& 31)).toInt8.toInt32))))), .second]) rfl (n := 265) rfl ?_
              refine aload P at_265 rfl rfl (n := 267) rfl ?_
              have ev0 : gv9 0 = (FP.i2d ((q >>> ((8 : Int32) &&& 31)).toInt8.toInt32)) := hv0.trans (if_pos hc202)
              have ev1 : gv9 1 = (FP.i2d ((p1 >>> ((8 : Int32) &&& 31)).toInt8.toInt32)) := hv1.trans (if_pos hc218)
              have ev2 : gv9 2 = (FP.i2d ((p2 >>> ((16 : Int32) &&& 31)).toInt8.toInt32)) := hv2.trans (if_neg (Int.not_lt.mpr hc234))
              refine callV P at_267 (a := a) (argsL := []) (rest := []) (c_obj l Z a0 hw a kc kl ku kv kp kr gc gl9 gu9 gv9 h69 n0 P.low S9 (by rw [gc0]; exact own_Bi _) (by rw [gc1]; exact own_Bi _) (by rw [gc2]; exact own_Bi _) (by rw [ev0]; exact own_Bi _) (by rw [ev1]; exact own_Bi _) (by rw [ev2]; exact own_Bi _)) S9.1 (hw _ (List.mem_of_getElem? (i := 76) rfl)) (hw _ (List.mem_of_getElem? (i := 77) rfl)) (notFace_of_selects (args := #[]) (mvT P.hZ (hw _ (List.mem_of_getElem? (i := 79) rfl)))) (hw _ (List.mem_of_getElem? (i := 79) rfl)) (hw _ (List.mem_of_getElem? (i := 78) rfl)) (hw _ (List.mem_of_getElem? (i := 3) rfl)) (hw _ (List.mem_of_getElem? (i := 80) rfl)) (by decide) pd_4 rfl rfl rfl ⟨by decide, Nat.le_of_ble_eq_true rfl, by decide, by decide⟩ (n := 270) rfl (Ret.on ?_)
              intro T P
              refine dload P at_270 rfl (n := 272) rfl ?_
              refine dcmp P at_272 (v := (0 : Int32)) (by rw [ev0, ev1, ev2, gc0, gc1, gc2]; exact (own_all (own_Bi _) (own_Bi _) (own_Bi _) (own_Bi _) (own_Bi _) (own_Bi _)).2.2) (n := 273) rfl ?_
              refine if0_ne P at_273 (n' := 280) (n := 276) (by decide) rfl (fun hc273 => ?_) (fun hc273 => ?_)
              · -- pc 273 taken
                replace hc273 : ¬ (0 : Int) = (0 : Int) := hc273
                exact absurd hc273 (by decide)
              · -- pc 273 not taken
                replace hc273 : (0 : Int) = (0 : Int) := hc273
                refine iconst P at_276 (x := (1 : Int32)) rfl (n := 277) rfl ?_
                refine goto P at_277 (n := 281) (by decide) ?_
                refine retZ P at_281 (by decide) (by decide) (by decide) ?_
                exact rfl
          · -- pc 218 not taken
            replace hc218 : (0 : Int) ≤ (own_v (FP.i2d (p1.toInt8.toInt32))).toInt := hc218
            refine dload P at_221 rfl (n := 223) rfl ?_
            refine goto P at_223 (n := 228) (by decide) ?_
            refine dstore P at_228 (l' := #[.val (.int p0), .val (.int p1), .val (.int p2), .val (.int q), .val (.double (FP.i2d (p0.toInt8.toInt32))), .second, .val (.double (FP.i2d ((p0 >>> ((8 : Int32) &&& 31)).toInt8.toInt32))), .second, .val (.double (FP.i2d ((p0 >>> ((16 : Int32) &&& 31)).toInt8.toInt32))), .second, .val (.double (FP.i2d (p1.toInt8.toInt32))), .second, .val (.double (FP.i2d ((p1 >>> ((8 : Int32) &&& 31)).toInt8.toInt32))), .second, .val (.double (FP.i2d ((p1 >>> ((16 : Int32) &&& 31)).toInt8.toInt32))), .second, .val (.double (FP.i2d (p2.toInt8.toInt32))), .second, .val (.double (FP.i2d ((p2 >>> ((8 : Int32) &&& 31)).toInt8.toInt32))), .second, .val (.double (FP.i2d ((p2 >>> ((16 : Int32) &&& 31)).toInt8.toInt32))), .second, .val (.double (FP.i2d ((q >>> ((8 : Int32) &&& 31)).toInt8.toInt32))), .second, .val (.double (FP.i2d ((q >>> ((16 : Int32) &&& 31)).toInt8.toInt32))), .second, .val (.int (1 : Int32)), .val (.ref b35), .val (.ref b45), .val (.ref b55), .val (.ref a), .val (.double (FP.i2d ((q >>> ((8 : Int32) &&& 31)).toInt8.toInt32))), .second, .val (.double (FP.i2d ((p1 >>> ((16 : Int32) &&& 31)).toInt8.toInt32))), .second, .unset, .unset, .unset, .unset]) rfl (n := 230) rfl ?_
            refine dload P at_230 rfl (n := 232) rfl ?_
            refine dconst0 P at_232 (n := 233) rfl ?_
            refine dcmp P at_233 (v := (own_v (FP.i2d (p2.toInt8.toInt32)))) rfl (n := 234) rfl ?_
            refine if0_lt P at_234 (n' := 242) (n := 237) (by decide) rfl (fun hc234 => ?_) (fun hc234 => ?_)
            · -- pc 234 taken
              replace hc234 : (own_v (FP.i2d (p2.toInt8.toInt32))).toInt < (0 : Int) := hc234
              refine dload P at_242 rfl (n := 244) rfl ?_
              refine dstore P at_244 (l' := #[.val (.int p0), .val (.int p1), .val (.int p2), .val (.int q), .val (.double (FP.i2d (p0.toInt8.toInt32))), .second, .val (.double (FP.i2d ((p0 >>> ((8 : Int32) &&& 31)).toInt8.toInt32))), .second, .val (.double (FP.i2d ((p0 >>> ((16 : Int32) &&& 31)).toInt8.toInt32))), .second, .val (.double (FP.i2d (p1.toInt8.toInt32))), .second, .val (.double (FP.i2d ((p1 >>> ((8 : Int32) &&& 31)).toInt8.toInt32))), .second, .val (.double (FP.i2d ((p1 >>> ((16 : Int32) &&& 31)).toInt8.toInt32))), .second, .val (.double (FP.i2d (p2.toInt8.toInt32))), .second, .val (.double (FP.i2d ((p2 >>> ((8 : Int32) &&& 31)).toInt8.toInt32))), .second, .val (.double (FP.i2d ((p2 >>> ((16 : Int32) &&& 31)).toInt8.toInt32))), .second, .val (.double (FP.i2d ((q >>> ((8 : Int32) &&& 31)).toInt8.toInt32))), .second, .val (.double (FP.i2d ((q >>> ((16 : Int32) &&& 31)).toInt8.toInt32))), .second, .val (.int (1 : Int32)), .val (.ref b35), .val (.ref b45), .val (.ref b55), .val (.ref a), .val (.double (FP.i2d ((q >>> ((8 : Int32) &&& 31)).toInt8.toInt32))), .second, .val (.double (FP.i2d ((p1 >>> ((16 : Int32) &&& 31)).toInt8.toInt32))), .second, .val (.double (FP.i2d ((p2 >>> ((8 : Int32) &&& 31)).toInt8.toInt32))), .second, .unset, .unset]) rfl (n := 246) rfl ?_
              refine dload P at_246 rfl (n := 248) rfl ?_
              refine dload P at_248 rfl (n := 250) rfl ?_
              refine dmul P at_250 (own_nm (own_Bi _) (own_Bi _)) (n := 251) rfl ?_
              refine dload P at_251 rfl (n := 253) rfl ?_
              refine dload P at_253 rfl (n := 255) rfl ?_
              refine dmul P at_255 (own_nm (own_Bi _) (own_Bi _)) (n := 256) rfl ?_
              refine dadd P at_256 (own_all (own_Bi _) (own_Bi _) (own_Bi _) (own_Bi _) (own_Bi 0) (own_Bi 0)).2.1.1 (n := 257) rfl ?_
              refine dload P at_257 rfl (n := 259) rfl ?_
              refine dload P at_259 rfl (n := 261) rfl ?_
              refine dmul P at_261 (own_nm (own_Bi _) (own_Bi _)) (n := 262) rfl ?_
              refine dadd P at_262 (own_all (own_Bi _) (own_Bi _) (own_Bi _) (own_Bi _) (own_Bi _) (own_Bi _)).2.1.2 (n := 263) rfl ?_
              refine dstore P at_263 (l' := #[.val (.int p0), .val (.int p1), .val (.int p2), .val (.int q), .val (.double (FP.i2d (p0.toInt8.toInt32))), .second, .val (.double (FP.i2d ((p0 >>> ((8 : Int32) &&& 31)).toInt8.toInt32))), .second, .val (.double (FP.i2d ((p0 >>> ((16 : Int32) &&& 31)).toInt8.toInt32))), .second, .val (.double (FP.i2d (p1.toInt8.toInt32))), .second, .val (.double (FP.i2d ((p1 >>> ((8 : Int32) &&& 31)).toInt8.toInt32))), .second, .val (.double (FP.i2d ((p1 >>> ((16 : Int32) &&& 31)).toInt8.toInt32))), .second, .val (.double (FP.i2d (p2.toInt8.toInt32))), .second, .val (.double (FP.i2d ((p2 >>> ((8 : Int32) &&& 31)).toInt8.toInt32))), .second, .val (.double (FP.i2d ((p2 >>> ((16 : Int32) &&& 31)).toInt8.toInt32))), .second, .val (.double (FP.i2d ((q >>> ((8 : Int32) &&& 31)).toInt8.toInt32))), .second, .val (.double (FP.i2d ((q >>> ((16 : Int32) &&& 31)).toInt8.toInt32))), .second, .val (.int (1 : Int32)), .val (.ref b35), .val (.ref b45), .val (.ref b55), .val (.ref a), .val (.double (FP.i2d ((q >>> ((8 : Int32) &&& 31)).toInt8.toInt32))), .second, .val (.double (FP.i2d ((p1 >>> ((16 : Int32) &&& 31)).toInt8.toInt32))), .second, .val (.double (FP.i2d ((p2 >>> ((8 : Int32) &&& 31)).toInt8.toInt32))), .second, .val (.double (FP.dadd (FP.dadd (FP.dmul (FP.i2d (p0.toInt8.toInt32)) (FP.i2d ((q >>> ((8 : Int32) &&& 31)).toInt8.toInt32))) (FP.dmul (FP.i2d (p1.toInt8.toInt32)) (FP.i2d ((p1 >>> ((16 : Int32) &&& 31)).toInt8.toInt32)))) (FP.dmul (FP.i2d (p2.toInt8.toInt32)) (FP.i2d ((p2 >>> ((8 : Int32) &&& 31)).toInt8.toInt32))))), .second]) rfl (n := 265) rfl ?_
              refine aload P at_265 rfl rfl (n := 267) rfl ?_
              have ev0 : gv9 0 = (FP.i2d ((q >>> ((8 : Int32) &&& 31)).toInt8.toInt32)) := hv0.trans (if_pos hc202)
              have ev1 : gv9 1 = (FP.i2d ((p1 >>> ((16 : Int32) &&& 31)).toInt8.toInt32)) := hv1.trans (if_neg (Int.not_lt.mpr hc218))
              have ev2 : gv9 2 = (FP.i2d ((p2 >>> ((8 : Int32) &&& 31)).toInt8.toInt32)) := hv2.trans (if_pos hc234)
              refine callV P at_267 (a := a) (argsL := []) (rest := []) (c_obj l Z a0 hw a kc kl ku kv kp kr gc gl9 gu9 gv9 h69 n0 P.low S9 (by rw [gc0]; exact own_Bi _) (by rw [gc1]; exact own_Bi _) (by rw [gc2]; exact own_Bi _) (by rw [ev0]; exact own_Bi _) (by rw [ev1]; exact own_Bi _) (by rw [ev2]; exact own_Bi _)) S9.1 (hw _ (List.mem_of_getElem? (i := 76) rfl)) (hw _ (List.mem_of_getElem? (i := 77) rfl)) (notFace_of_selects (args := #[]) (mvT P.hZ (hw _ (List.mem_of_getElem? (i := 79) rfl)))) (hw _ (List.mem_of_getElem? (i := 79) rfl)) (hw _ (List.mem_of_getElem? (i := 78) rfl)) (hw _ (List.mem_of_getElem? (i := 3) rfl)) (hw _ (List.mem_of_getElem? (i := 80) rfl)) (by decide) pd_4 rfl rfl rfl ⟨by decide, Nat.le_of_ble_eq_true rfl, by decide, by decide⟩ (n := 270) rfl (Ret.on ?_)
              intro T P
              refine dload P at_270 rfl (n := 272) rfl ?_
              refine dcmp P at_272 (v := (0 : Int32)) (by rw [ev0, ev1, ev2, gc0, gc1, gc2]; exact (own_all (own_Bi _) (own_Bi _) (own_Bi _) (own_Bi _) (own_Bi _) (own_Bi _)).2.2) (n := 273) rfl ?_
              refine if0_ne P at_273 (n' := 280) (n := 276) (by decide) rfl (fun hc273 => ?_) (fun hc273 => ?_)
              · -- pc 273 taken
                replace hc273 : ¬ (0 : Int) = (0 : Int) := hc273
                exact absurd hc273 (by decide)
              · -- pc 273 not taken
                replace hc273 : (0 : Int) = (0 : Int) := hc273
                refine iconst P at_276 (x := (1 : Int32)) rfl (n := 277) rfl ?_
                refine goto P at_277 (n := 281) (by decide) ?_
                refine retZ P at_281 (by decide) (by decide) (by decide) ?_
                exact rfl
            · -- pc 234 not taken
              replace hc234 : (0 : Int) ≤ (own_v (FP.i2d (p2.toInt8.toInt32))).toInt := hc234
              refine dload P at_237 rfl (n := 239) rfl ?_
              refine goto P at_239 (n := 244) (by decide) ?_
              refine dstore P at_244 (l' := #[.val (.int p0), .val (.int p1), .val (.int p2), .val (.int q), .val (.double (FP.i2d (p0.toInt8.toInt32))), .second, .val (.double (FP.i2d ((p0 >>> ((8 : Int32) &&& 31)).toInt8.toInt32))), .second, .val (.double (FP.i2d ((p0 >>> ((16 : Int32) &&& 31)).toInt8.toInt32))), .second, .val (.double (FP.i2d (p1.toInt8.toInt32))), .second, .val (.double (FP.i2d ((p1 >>> ((8 : Int32) &&& 31)).toInt8.toInt32))), .second, .val (.double (FP.i2d ((p1 >>> ((16 : Int32) &&& 31)).toInt8.toInt32))), .second, .val (.double (FP.i2d (p2.toInt8.toInt32))), .second, .val (.double (FP.i2d ((p2 >>> ((8 : Int32) &&& 31)).toInt8.toInt32))), .second, .val (.double (FP.i2d ((p2 >>> ((16 : Int32) &&& 31)).toInt8.toInt32))), .second, .val (.double (FP.i2d ((q >>> ((8 : Int32) &&& 31)).toInt8.toInt32))), .second, .val (.double (FP.i2d ((q >>> ((16 : Int32) &&& 31)).toInt8.toInt32))), .second, .val (.int (1 : Int32)), .val (.ref b35), .val (.ref b45), .val (.ref b55), .val (.ref a), .val (.double (FP.i2d ((q >>> ((8 : Int32) &&& 31)).toInt8.toInt32))), .second, .val (.double (FP.i2d ((p1 >>> ((16 : Int32) &&& 31)).toInt8.toInt32))), .second, .val (.double (FP.i2d ((p2 >>> ((16 : Int32) &&& 31)).toInt8.toInt32))), .second, .unset, .unset]) rfl (n := 246) rfl ?_
              refine dload P at_246 rfl (n := 248) rfl ?_
              refine dload P at_248 rfl (n := 250) rfl ?_
              refine dmul P at_250 (own_nm (own_Bi _) (own_Bi _)) (n := 251) rfl ?_
              refine dload P at_251 rfl (n := 253) rfl ?_
              refine dload P at_253 rfl (n := 255) rfl ?_
              refine dmul P at_255 (own_nm (own_Bi _) (own_Bi _)) (n := 256) rfl ?_
              refine dadd P at_256 (own_all (own_Bi _) (own_Bi _) (own_Bi _) (own_Bi _) (own_Bi 0) (own_Bi 0)).2.1.1 (n := 257) rfl ?_
              refine dload P at_257 rfl (n := 259) rfl ?_
              refine dload P at_259 rfl (n := 261) rfl ?_
              refine dmul P at_261 (own_nm (own_Bi _) (own_Bi _)) (n := 262) rfl ?_
              refine dadd P at_262 (own_all (own_Bi _) (own_Bi _) (own_Bi _) (own_Bi _) (own_Bi _) (own_Bi _)).2.1.2 (n := 263) rfl ?_
              refine dstore P at_263 (l' := #[.val (.int p0), .val (.int p1), .val (.int p2), .val (.int q), .val (.double (FP.i2d (p0.toInt8.toInt32))), .second, .val (.double (FP.i2d ((p0 >>> ((8 : Int32) &&& 31)).toInt8.toInt32))), .second, .val (.double (FP.i2d ((p0 >>> ((16 : Int32) &&& 31)).toInt8.toInt32))), .second, .val (.double (FP.i2d (p1.toInt8.toInt32))), .second, .val (.double (FP.i2d ((p1 >>> ((8 : Int32) &&& 31)).toInt8.toInt32))), .second, .val (.double (FP.i2d ((p1 >>> ((16 : Int32) &&& 31)).toInt8.toInt32))), .second, .val (.double (FP.i2d (p2.toInt8.toInt32))), .second, .val (.double (FP.i2d ((p2 >>> ((8 : Int32) &&& 31)).toInt8.toInt32))), .second, .val (.double (FP.i2d ((p2 >>> ((16 : Int32) &&& 31)).toInt8.toInt32))), .second, .val (.double (FP.i2d ((q >>> ((8 : Int32) &&& 31)).toInt8.toInt32))), .second, .val (.double (FP.i2d ((q >>> ((16 : Int32) &&& 31)).toInt8.toInt32))), .second, .val (.int (1 : Int32)), .val (.ref b35), .val (.ref b45), .val (.ref b55), .val (.ref a), .val (.double (FP.i2d ((q >>> ((8 : Int32) &&& 31)).toInt8.toInt32))), .second, .val (.double (FP.i2d ((p1 >>> ((16 : Int32) &&& 31)).toInt8.toInt32))), .second, .val (.double (FP.i2d ((p2 >>> ((16 : Int32) &&& 31)).toInt8.toInt32))), .second, .val (.double (FP.dadd (FP.dadd (FP.dmul (FP.i2d (p0.toInt8.toInt32)) (FP.i2d ((q >>> ((8 : Int32) &&& 31)).toInt8.toInt32))) (FP.dmul (FP.i2d (p1.toInt8.toInt32)) (FP.i2d ((p1 >>> ((16 : Int32) &&& 31)).toInt8.toInt32)))) (FP.dmul (FP.i2d (p2.toInt8.toInt32)) (FP.i2d ((p2 >>> ((16 : Int32) &&& 31)).toInt8.toInt32))))), .second]) rfl (n := 265) rfl ?_
              refine aload P at_265 rfl rfl (n := 267) rfl ?_
              have ev0 : gv9 0 = (FP.i2d ((q >>> ((8 : Int32) &&& 31)).toInt8.toInt32)) := hv0.trans (if_pos hc202)
              have ev1 : gv9 1 = (FP.i2d ((p1 >>> ((16 : Int32) &&& 31)).toInt8.toInt32)) := hv1.trans (if_neg (Int.not_lt.mpr hc218))
              have ev2 : gv9 2 = (FP.i2d ((p2 >>> ((16 : Int32) &&& 31)).toInt8.toInt32)) := hv2.trans (if_neg (Int.not_lt.mpr hc234))
              refine callV P at_267 (a := a) (argsL := []) (rest := []) (c_obj l Z a0 hw a kc kl ku kv kp kr gc gl9 gu9 gv9 h69 n0 P.low S9 (by rw [gc0]; exact own_Bi _) (by rw [gc1]; exact own_Bi _) (by rw [gc2]; exact own_Bi _) (by rw [ev0]; exact own_Bi _) (by rw [ev1]; exact own_Bi _) (by rw [ev2]; exact own_Bi _)) S9.1 (hw _ (List.mem_of_getElem? (i := 76) rfl)) (hw _ (List.mem_of_getElem? (i := 77) rfl)) (notFace_of_selects (args := #[]) (mvT P.hZ (hw _ (List.mem_of_getElem? (i := 79) rfl)))) (hw _ (List.mem_of_getElem? (i := 79) rfl)) (hw _ (List.mem_of_getElem? (i := 78) rfl)) (hw _ (List.mem_of_getElem? (i := 3) rfl)) (hw _ (List.mem_of_getElem? (i := 80) rfl)) (by decide) pd_4 rfl rfl rfl ⟨by decide, Nat.le_of_ble_eq_true rfl, by decide, by decide⟩ (n := 270) rfl (Ret.on ?_)
              intro T P
              refine dload P at_270 rfl (n := 272) rfl ?_
              refine dcmp P at_272 (v := (0 : Int32)) (by rw [ev0, ev1, ev2, gc0, gc1, gc2]; exact (own_all (own_Bi _) (own_Bi _) (own_Bi _) (own_Bi _) (own_Bi _) (own_Bi _)).2.2) (n := 273) rfl ?_
              refine if0_ne P at_273 (n' := 280) (n := 276) (by decide) rfl (fun hc273 => ?_) (fun hc273 => ?_)
              · -- pc 273 taken
                replace hc273 : ¬ (0 : Int) = (0 : Int) := hc273
                exact absurd hc273 (by decide)
              · -- pc 273 not taken
                replace hc273 : (0 : Int) = (0 : Int) := hc273
                refine iconst P at_276 (x := (1 : Int32)) rfl (n := 277) rfl ?_
                refine goto P at_277 (n := 281) (by decide) ?_
                refine retZ P at_281 (by decide) (by decide) (by decide) ?_
                exact rfl
        · -- pc 202 not taken
          replace hc202 : (0 : Int) ≤ (own_v (FP.i2d (p0.toInt8.toInt32))).toInt := hc202
          refine dload P at_205 rfl (n := 207) rfl ?_
          refine goto P at_207 (n := 212) (by decide) ?_
          refine dstore P at_212 (l' := #[.val (.int p0), .val (.int p1), .val (.int p2), .val (.int q), .val (.double (FP.i2d (p0.toInt8.toInt32))), .second, .val (.double (FP.i2d ((p0 >>> ((8 : Int32) &&& 31)).toInt8.toInt32))), .second, .val (.double (FP.i2d ((p0 >>> ((16 : Int32) &&& 31)).toInt8.toInt32))), .second, .val (.double (FP.i2d (p1.toInt8.toInt32))), .second, .val (.double (FP.i2d ((p1 >>> ((8 : Int32) &&& 31)).toInt8.toInt32))), .second, .val (.double (FP.i2d ((p1 >>> ((16 : Int32) &&& 31)).toInt8.toInt32))), .second, .val (.double (FP.i2d (p2.toInt8.toInt32))), .second, .val (.double (FP.i2d ((p2 >>> ((8 : Int32) &&& 31)).toInt8.toInt32))), .second, .val (.double (FP.i2d ((p2 >>> ((16 : Int32) &&& 31)).toInt8.toInt32))), .second, .val (.double (FP.i2d ((q >>> ((8 : Int32) &&& 31)).toInt8.toInt32))), .second, .val (.double (FP.i2d ((q >>> ((16 : Int32) &&& 31)).toInt8.toInt32))), .second, .val (.int (1 : Int32)), .val (.ref b35), .val (.ref b45), .val (.ref b55), .val (.ref a), .val (.double (FP.i2d ((q >>> ((16 : Int32) &&& 31)).toInt8.toInt32))), .second, .unset, .unset, .unset, .unset, .unset, .unset]) rfl (n := 214) rfl ?_
          refine dload P at_214 rfl (n := 216) rfl ?_
          refine dconst0 P at_216 (n := 217) rfl ?_
          refine dcmp P at_217 (v := (own_v (FP.i2d (p1.toInt8.toInt32)))) rfl (n := 218) rfl ?_
          refine if0_lt P at_218 (n' := 226) (n := 221) (by decide) rfl (fun hc218 => ?_) (fun hc218 => ?_)
          · -- pc 218 taken
            replace hc218 : (own_v (FP.i2d (p1.toInt8.toInt32))).toInt < (0 : Int) := hc218
            refine dload P at_226 rfl (n := 228) rfl ?_
            refine dstore P at_228 (l' := #[.val (.int p0), .val (.int p1), .val (.int p2), .val (.int q), .val (.double (FP.i2d (p0.toInt8.toInt32))), .second, .val (.double (FP.i2d ((p0 >>> ((8 : Int32) &&& 31)).toInt8.toInt32))), .second, .val (.double (FP.i2d ((p0 >>> ((16 : Int32) &&& 31)).toInt8.toInt32))), .second, .val (.double (FP.i2d (p1.toInt8.toInt32))), .second, .val (.double (FP.i2d ((p1 >>> ((8 : Int32) &&& 31)).toInt8.toInt32))), .second, .val (.double (FP.i2d ((p1 >>> ((16 : Int32) &&& 31)).toInt8.toInt32))), .second, .val (.double (FP.i2d (p2.toInt8.toInt32))), .second, .val (.double (FP.i2d ((p2 >>> ((8 : Int32) &&& 31)).toInt8.toInt32))), .second, .val (.double (FP.i2d ((p2 >>> ((16 : Int32) &&& 31)).toInt8.toInt32))), .second, .val (.double (FP.i2d ((q >>> ((8 : Int32) &&& 31)).toInt8.toInt32))), .second, .val (.double (FP.i2d ((q >>> ((16 : Int32) &&& 31)).toInt8.toInt32))), .second, .val (.int (1 : Int32)), .val (.ref b35), .val (.ref b45), .val (.ref b55), .val (.ref a), .val (.double (FP.i2d ((q >>> ((16 : Int32) &&& 31)).toInt8.toInt32))), .second, .val (.double (FP.i2d ((p1 >>> ((8 : Int32) &&& 31)).toInt8.toInt32))), .second, .unset, .unset, .unset, .unset]) rfl (n := 230) rfl ?_
            refine dload P at_230 rfl (n := 232) rfl ?_
            refine dconst0 P at_232 (n := 233) rfl ?_
            refine dcmp P at_233 (v := (own_v (FP.i2d (p2.toInt8.toInt32)))) rfl (n := 234) rfl ?_
            refine if0_lt P at_234 (n' := 242) (n := 237) (by decide) rfl (fun hc234 => ?_) (fun hc234 => ?_)
            · -- pc 234 taken
              replace hc234 : (own_v (FP.i2d (p2.toInt8.toInt32))).toInt < (0 : Int) := hc234
              refine dload P at_242 rfl (n := 244) rfl ?_
              refine dstore P at_244 (l' := #[.val (.int p0), .val (.int p1), .val (.int p2), .val (.int q), .val (.double (FP.i2d (p0.toInt8.toInt32))), .second, .val (.double (FP.i2d ((p0 >>> ((8 : Int32) &&& 31)).toInt8.toInt32))), .second, .val (.double (FP.i2d ((p0 >>> ((16 : Int32) &&& 31)).toInt8.toInt32))), .second, .val (.double (FP.i2d (p1.toInt8.toInt32))), .second, .val (.double (FP.i2d ((p1 >>> ((8 : Int32) &&& 31)).toInt8.toInt32))), .second, .val (.double (FP.i2d ((p1 >>> ((16 : Int32) &&& 31)).toInt8.toInt32))), .second, .val (.double (FP.i2d (p2.toInt8.toInt32))), .second, .val (.double (FP.i2d ((p2 >>> ((8 : Int32) &&& 31)).toInt8.toInt32))), .second, .val (.double (FP.i2d ((p2 >>> ((16 : Int32) &&& 31)).toInt8.toInt32))), .second, .val (.double (FP.i2d ((q >>> ((8 : Int32) &&& 31)).toInt8.toInt32))), .second, .val (.double (FP.i2d ((q >>> ((16 : Int32) &&& 31)).toInt8.toInt32))), .second, .val (.int (1 : Int32)), .val (.ref b35), .val (.ref b45), .val (.ref b55), .val (.ref a), .val (.double (FP.i2d ((q >>> ((16 : Int32) &&& 31)).toInt8.toInt32))), .second, .val (.double (FP.i2d ((p1 >>> ((8 : Int32) &&& 31)).toInt8.toInt32))), .second, .val (.double (FP.i2d ((p2 >>> ((8 : Int32) &&& 31)).toInt8.toInt32))), .second, .unset, .unset]) rfl (n := 246) rfl ?_
              refine dload P at_246 rfl (n := 248) rfl ?_
              refine dload P at_248 rfl (n := 250) rfl ?_
              refine dmul P at_250 (own_nm (own_Bi _) (own_Bi _)) (n := 251) rfl ?_
              refine dload P at_251 rfl (n := 253) rfl ?_
              refine dload P at_253 rfl (n := 255) rfl ?_
              refine dmul P at_255 (own_nm (own_Bi _) (own_Bi _)) (n := 256) rfl ?_
              refine dadd P at_256 (own_all (own_Bi _) (own_Bi _) (own_Bi _) (own_Bi _) (own_Bi 0) (own_Bi 0)).2.1.1 (n := 257) rfl ?_
              refine dload P at_257 rfl (n := 259) rfl ?_
              refine dload P at_259 rfl (n := 261) rfl ?_
              refine dmul P at_261 (own_nm (own_Bi _) (own_Bi _)) (n := 262) rfl ?_
              refine dadd P at_262 (own_all (own_Bi _) (own_Bi _) (own_Bi _) (own_Bi _) (own_Bi _) (own_Bi _)).2.1.2 (n := 263) rfl ?_
              refine dstore P at_263 (l' := #[.val (.int p0), .val (.int p1), .val (.int p2), .val (.int q), .val (.double (FP.i2d (p0.toInt8.toInt32))), .second, .val (.double (FP.i2d ((p0 >>> ((8 : Int32) &&& 31)).toInt8.toInt32))), .second, .val (.double (FP.i2d ((p0 >>> ((16 : Int32) &&& 31)).toInt8.toInt32))), .second, .val (.double (FP.i2d (p1.toInt8.toInt32))), .second, .val (.double (FP.i2d ((p1 >>> ((8 : Int32) &&& 31)).toInt8.toInt32))), .second, .val (.double (FP.i2d ((p1 >>> ((16 : Int32) &&& 31)).toInt8.toInt32))), .second, .val (.double (FP.i2d (p2.toInt8.toInt32))), .second, .val (.double (FP.i2d ((p2 >>> ((8 : Int32) &&& 31)).toInt8.toInt32))), .second, .val (.double (FP.i2d ((p2 >>> ((16 : Int32) &&& 31)).toInt8.toInt32))), .second, .val (.double (FP.i2d ((q >>> ((8 : Int32) &&& 31)).toInt8.toInt32))), .second, .val (.double (FP.i2d ((q >>> ((16 : Int32) &&& 31)).toInt8.toInt32))), .second, .val (.int (1 : Int32)), .val (.ref b35), .val (.ref b45), .val (.ref b55), .val (.ref a), .val (.double (FP.i2d ((q >>> ((16 : Int32) &&& 31)).toInt8.toInt32))), .second, .val (.double (FP.i2d ((p1 >>> ((8 : Int32) &&& 31)).toInt8.toInt32))), .second, .val (.double (FP.i2d ((p2 >>> ((8 : Int32) &&& 31)).toInt8.toInt32))), .second, .val (.double (FP.dadd (FP.dadd (FP.dmul (FP.i2d (p0.toInt8.toInt32)) (FP.i2d ((q >>> ((16 : Int32) &&& 31)).toInt8.toInt32))) (FP.dmul (FP.i2d (p1.toInt8.toInt32)) (FP.i2d ((p1 >>> ((8 : Int32) &&& 31)).toInt8.toInt32)))) (FP.dmul (FP.i2d (p2.toInt8.toInt32)) (FP.i2d ((p2 >>> ((8 : Int32) &&& 31)).toInt8.toInt32))))), .second]) rfl (n := 265) rfl ?_
              refine aload P at_265 rfl rfl (n := 267) rfl ?_
              have ev0 : gv9 0 = (FP.i2d ((q >>> ((16 : Int32) &&& 31)).toInt8.toInt32)) := hv0.trans (if_neg (Int.not_lt.mpr hc202))
              have ev1 : gv9 1 = (FP.i2d ((p1 >>> ((8 : Int32) &&& 31)).toInt8.toInt32)) := hv1.trans (if_pos hc218)
              have ev2 : gv9 2 = (FP.i2d ((p2 >>> ((8 : Int32) &&& 31)).toInt8.toInt32)) := hv2.trans (if_pos hc234)
              refine callV P at_267 (a := a) (argsL := []) (rest := []) (c_obj l Z a0 hw a kc kl ku kv kp kr gc gl9 gu9 gv9 h69 n0 P.low S9 (by rw [gc0]; exact own_Bi _) (by rw [gc1]; exact own_Bi _) (by rw [gc2]; exact own_Bi _) (by rw [ev0]; exact own_Bi _) (by rw [ev1]; exact own_Bi _) (by rw [ev2]; exact own_Bi _)) S9.1 (hw _ (List.mem_of_getElem? (i := 76) rfl)) (hw _ (List.mem_of_getElem? (i := 77) rfl)) (notFace_of_selects (args := #[]) (mvT P.hZ (hw _ (List.mem_of_getElem? (i := 79) rfl)))) (hw _ (List.mem_of_getElem? (i := 79) rfl)) (hw _ (List.mem_of_getElem? (i := 78) rfl)) (hw _ (List.mem_of_getElem? (i := 3) rfl)) (hw _ (List.mem_of_getElem? (i := 80) rfl)) (by decide) pd_4 rfl rfl rfl ⟨by decide, Nat.le_of_ble_eq_true rfl, by decide, by decide⟩ (n := 270) rfl (Ret.on ?_)
              intro T P
              refine dload P at_270 rfl (n := 272) rfl ?_
              refine dcmp P at_272 (v := (0 : Int32)) (by rw [ev0, ev1, ev2, gc0, gc1, gc2]; exact (own_all (own_Bi _) (own_Bi _) (own_Bi _) (own_Bi _) (own_Bi _) (own_Bi _)).2.2) (n := 273) rfl ?_
              refine if0_ne P at_273 (n' := 280) (n := 276) (by decide) rfl (fun hc273 => ?_) (fun hc273 => ?_)
              · -- pc 273 taken
                replace hc273 : ¬ (0 : Int) = (0 : Int) := hc273
                exact absurd hc273 (by decide)
              · -- pc 273 not taken
                replace hc273 : (0 : Int) = (0 : Int) := hc273
                refine iconst P at_276 (x := (1 : Int32)) rfl (n := 277) rfl ?_
                refine goto P at_277 (n := 281) (by decide) ?_
                refine retZ P at_281 (by decide) (by decide) (by decide) ?_
                exact rfl
            · -- pc 234 not taken
              replace hc234 : (0 : Int) ≤ (own_v (FP.i2d (p2.toInt8.toInt32))).toInt := hc234
              refine dload P at_237 rfl (n := 239) rfl ?_
              refine goto P at_239 (n := 244) (by decide) ?_
              refine dstore P at_244 (l' := #[.val (.int p0), .val (.int p1), .val (.int p2), .val (.int q), .val (.double (FP.i2d (p0.toInt8.toInt32))), .second, .val (.double (FP.i2d ((p0 >>> ((8 : Int32) &&& 31)).toInt8.toInt32))), .second, .val (.double (FP.i2d ((p0 >>> ((16 : Int32) &&& 31)).toInt8.toInt32))), .second, .val (.double (FP.i2d (p1.toInt8.toInt32))), .second, .val (.double (FP.i2d ((p1 >>> ((8 : Int32) &&& 31)).toInt8.toInt32))), .second, .val (.double (FP.i2d ((p1 >>> ((16 : Int32) &&& 31)).toInt8.toInt32))), .second, .val (.double (FP.i2d (p2.toInt8.toInt32))), .second, .val (.double (FP.i2d ((p2 >>> ((8 : Int32) &&& 31)).toInt8.toInt32))), .second, .val (.double (FP.i2d ((p2 >>> ((16 : Int32) &&& 31)).toInt8.toInt32))), .second, .val (.double (FP.i2d ((q >>> ((8 : Int32) &&& 31)).toInt8.toInt32))), .second, .val (.double (FP.i2d ((q >>> ((16 : Int32) &&& 31)).toInt8.toInt32))), .second, .val (.int (1 : Int32)), .val (.ref b35), .val (.ref b45), .val (.ref b55), .val (.ref a), .val (.double (FP.i2d ((q >>> ((16 : Int32) &&& 31)).toInt8.toInt32))), .second, .val (.double (FP.i2d ((p1 >>> ((8 : Int32) &&& 31)).toInt8.toInt32))), .second, .val (.double (FP.i2d ((p2 >>> ((16 : Int32) &&& 31)).toInt8.toInt32))), .second, .unset, .unset]) rfl (n := 246) rfl ?_
              refine dload P at_246 rfl (n := 248) rfl ?_
              refine dload P at_248 rfl (n := 250) rfl ?_
              refine dmul P at_250 (own_nm (own_Bi _) (own_Bi _)) (n := 251) rfl ?_
              refine dload P at_251 rfl (n := 253) rfl ?_
              refine dload P at_253 rfl (n := 255) rfl ?_
              refine dmul P at_255 (own_nm (own_Bi _) (own_Bi _)) (n := 256) rfl ?_
              refine dadd P at_256 (own_all (own_Bi _) (own_Bi _) (own_Bi _) (own_Bi _) (own_Bi 0) (own_Bi 0)).2.1.1 (n := 257) rfl ?_
              refine dload P at_257 rfl (n := 259) rfl ?_
              refine dload P at_259 rfl (n := 261) rfl ?_
              refine dmul P at_261 (own_nm (own_Bi _) (own_Bi _)) (n := 262) rfl ?_
              refine dadd P at_262 (own_all (own_Bi _) (own_Bi _) (own_Bi _) (own_Bi _) (own_Bi _) (own_Bi _)).2.1.2 (n := 263) rfl ?_
              refine dstore P at_263 (l' := #[.val (.int p0), .val (.int p1), .val (.int p2), .val (.int q), .val (.double (FP.i2d (p0.toInt8.toInt32))), .second, .val (.double (FP.i2d ((p0 >>> ((8 : Int32) &&& 31)).toInt8.toInt32))), .second, .val (.double (FP.i2d ((p0 >>> ((16 : Int32) &&& 31)).toInt8.toInt32))), .second, .val (.double (FP.i2d (p1.toInt8.toInt32))), .second, .val (.double (FP.i2d ((p1 >>> ((8 : Int32) &&& 31)).toInt8.toInt32))), .second, .val (.double (FP.i2d ((p1 >>> ((16 : Int32) &&& 31)).toInt8.toInt32))), .second, .val (.double (FP.i2d (p2.toInt8.toInt32))), .second, .val (.double (FP.i2d ((p2 >>> ((8 : Int32) &&& 31)).toInt8.toInt32))), .second, .val (.double (FP.i2d ((p2 >>> ((16 : Int32) &&& 31)).toInt8.toInt32))), .second, .val (.double (FP.i2d ((q >>> ((8 : Int32) &&& 31)).toInt8.toInt32))), .second, .val (.double (FP.i2d ((q >>> ((16 : Int32) &&& 31)).toInt8.toInt32))), .second, .val (.int (1 : Int32)), .val (.ref b35), .val (.ref b45), .val (.ref b55), .val (.ref a), .val (.double (FP.i2d ((q >>> ((16 : Int32) &&& 31)).toInt8.toInt32))), .second, .val (.double (FP.i2d ((p1 >>> ((8 : Int32) &&& 31)).toInt8.toInt32))), .second, .val (.double (FP.i2d ((p2 >>> ((16 : Int32) &&& 31)).toInt8.toInt32))), .second, .val (.double (FP.dadd (FP.dadd (FP.dmul (FP.i2d (p0.toInt8.toInt32)) (FP.i2d ((q >>> ((16 : Int32) &&& 31)).toInt8.toInt32))) (FP.dmul (FP.i2d (p1.toInt8.toInt32)) (FP.i2d ((p1 >>> ((8 : Int32) &&& 31)).toInt8.toInt32)))) (FP.dmul (FP.i2d (p2.toInt8.toInt32)) (FP.i2d ((p2 >>> ((16 : Int32) &&& 31)).toInt8.toInt32))))), .second]) rfl (n := 265) rfl ?_
              refine aload P at_265 rfl rfl (n := 267) rfl ?_
              have ev0 : gv9 0 = (FP.i2d ((q >>> ((16 : Int32) &&& 31)).toInt8.toInt32)) := hv0.trans (if_neg (Int.not_lt.mpr hc202))
              have ev1 : gv9 1 = (FP.i2d ((p1 >>> ((8 : Int32) &&& 31)).toInt8.toInt32)) := hv1.trans (if_pos hc218)
              have ev2 : gv9 2 = (FP.i2d ((p2 >>> ((16 : Int32) &&& 31)).toInt8.toInt32)) := hv2.trans (if_neg (Int.not_lt.mpr hc234))
              refine callV P at_267 (a := a) (argsL := []) (rest := []) (c_obj l Z a0 hw a kc kl ku kv kp kr gc gl9 gu9 gv9 h69 n0 P.low S9 (by rw [gc0]; exact own_Bi _) (by rw [gc1]; exact own_Bi _) (by rw [gc2]; exact own_Bi _) (by rw [ev0]; exact own_Bi _) (by rw [ev1]; exact own_Bi _) (by rw [ev2]; exact own_Bi _)) S9.1 (hw _ (List.mem_of_getElem? (i := 76) rfl)) (hw _ (List.mem_of_getElem? (i := 77) rfl)) (notFace_of_selects (args := #[]) (mvT P.hZ (hw _ (List.mem_of_getElem? (i := 79) rfl)))) (hw _ (List.mem_of_getElem? (i := 79) rfl)) (hw _ (List.mem_of_getElem? (i := 78) rfl)) (hw _ (List.mem_of_getElem? (i := 3) rfl)) (hw _ (List.mem_of_getElem? (i := 80) rfl)) (by decide) pd_4 rfl rfl rfl ⟨by decide, Nat.le_of_ble_eq_true rfl, by decide, by decide⟩ (n := 270) rfl (Ret.on ?_)
              intro T P
              refine dload P at_270 rfl (n := 272) rfl ?_
              refine dcmp P at_272 (v := (0 : Int32)) (by rw [ev0, ev1, ev2, gc0, gc1, gc2]; exact (own_all (own_Bi _) (own_Bi _) (own_Bi _) (own_Bi _) (own_Bi _) (own_Bi _)).2.2) (n := 273) rfl ?_
              refine if0_ne P at_273 (n' := 280) (n := 276) (by decide) rfl (fun hc273 => ?_) (fun hc273 => ?_)
              · -- pc 273 taken
                replace hc273 : ¬ (0 : Int) = (0 : Int) := hc273
                exact absurd hc273 (by decide)
              · -- pc 273 not taken
                replace hc273 : (0 : Int) = (0 : Int) := hc273
                refine iconst P at_276 (x := (1 : Int32)) rfl (n := 277) rfl ?_
                refine goto P at_277 (n := 281) (by decide) ?_
                refine retZ P at_281 (by decide) (by decide) (by decide) ?_
                exact rfl
          · -- pc 218 not taken
            replace hc218 : (0 : Int) ≤ (own_v (FP.i2d (p1.toInt8.toInt32))).toInt := hc218
            refine dload P at_221 rfl (n := 223) rfl ?_
            refine goto P at_223 (n := 228) (by decide) ?_
            refine dstore P at_228 (l' := #[.val (.int p0), .val (.int p1), .val (.int p2), .val (.int q), .val (.double (FP.i2d (p0.toInt8.toInt32))), .second, .val (.double (FP.i2d ((p0 >>> ((8 : Int32) &&& 31)).toInt8.toInt32))), .second, .val (.double (FP.i2d ((p0 >>> ((16 : Int32) &&& 31)).toInt8.toInt32))), .second, .val (.double (FP.i2d (p1.toInt8.toInt32))), .second, .val (.double (FP.i2d ((p1 >>> ((8 : Int32) &&& 31)).toInt8.toInt32))), .second, .val (.double (FP.i2d ((p1 >>> ((16 : Int32) &&& 31)).toInt8.toInt32))), .second, .val (.double (FP.i2d (p2.toInt8.toInt32))), .second, .val (.double (FP.i2d ((p2 >>> ((8 : Int32) &&& 31)).toInt8.toInt32))), .second, .val (.double (FP.i2d ((p2 >>> ((16 : Int32) &&& 31)).toInt8.toInt32))), .second, .val (.double (FP.i2d ((q >>> ((8 : Int32) &&& 31)).toInt8.toInt32))), .second, .val (.double (FP.i2d ((q >>> ((16 : Int32) &&& 31)).toInt8.toInt32))), .second, .val (.int (1 : Int32)), .val (.ref b35), .val (.ref b45), .val (.ref b55), .val (.ref a), .val (.double (FP.i2d ((q >>> ((16 : Int32) &&& 31)).toInt8.toInt32))), .second, .val (.double (FP.i2d ((p1 >>> ((16 : Int32) &&& 31)).toInt8.toInt32))), .second, .unset, .unset, .unset, .unset]) rfl (n := 230) rfl ?_
            refine dload P at_230 rfl (n := 232) rfl ?_
            refine dconst0 P at_232 (n := 233) rfl ?_
            refine dcmp P at_233 (v := (own_v (FP.i2d (p2.toInt8.toInt32)))) rfl (n := 234) rfl ?_
            refine if0_lt P at_234 (n' := 242) (n := 237) (by decide) rfl (fun hc234 => ?_) (fun hc234 => ?_)
            · -- pc 234 taken
              replace hc234 : (own_v (FP.i2d (p2.toInt8.toInt32))).toInt < (0 : Int) := hc234
              refine dload P at_242 rfl (n := 244) rfl ?_
              refine dstore P at_244 (l' := #[.val (.int p0), .val (.int p1), .val (.int p2), .val (.int q), .val (.double (FP.i2d (p0.toInt8.toInt32))), .second, .val (.double (FP.i2d ((p0 >>> ((8 : Int32) &&& 31)).toInt8.toInt32))), .second, .val (.double (FP.i2d ((p0 >>> ((16 : Int32) &&& 31)).toInt8.toInt32))), .second, .val (.double (FP.i2d (p1.toInt8.toInt32))), .second, .val (.double (FP.i2d ((p1 >>> ((8 : Int32) &&& 31)).toInt8.toInt32))), .second, .val (.double (FP.i2d ((p1 >>> ((16 : Int32) &&& 31)).toInt8.toInt32))), .second, .val (.double (FP.i2d (p2.toInt8.toInt32))), .second, .val (.double (FP.i2d ((p2 >>> ((8 : Int32) &&& 31)).toInt8.toInt32))), .second, .val (.double (FP.i2d ((p2 >>> ((16 : Int32) &&& 31)).toInt8.toInt32))), .second, .val (.double (FP.i2d ((q >>> ((8 : Int32) &&& 31)).toInt8.toInt32))), .second, .val (.double (FP.i2d ((q >>> ((16 : Int32) &&& 31)).toInt8.toInt32))), .second, .val (.int (1 : Int32)), .val (.ref b35), .val (.ref b45), .val (.ref b55), .val (.ref a), .val (.double (FP.i2d ((q >>> ((16 : Int32) &&& 31)).toInt8.toInt32))), .second, .val (.double (FP.i2d ((p1 >>> ((16 : Int32) &&& 31)).toInt8.toInt32))), .second, .val (.double (FP.i2d ((p2 >>> ((8 : Int32) &&& 31)).toInt8.toInt32))), .second, .unset, .unset]) rfl (n := 246) rfl ?_
              refine dload P at_246 rfl (n := 248) rfl ?_
              refine dload P at_248 rfl (n := 250) rfl ?_
              refine dmul P at_250 (own_nm (own_Bi _) (own_Bi _)) (n := 251) rfl ?_
              refine dload P at_251 rfl (n := 253) rfl ?_
              refine dload P at_253 rfl (n := 255) rfl ?_
              refine dmul P at_255 (own_nm (own_Bi _) (own_Bi _)) (n := 256) rfl ?_
              refine dadd P at_256 (own_all (own_Bi _) (own_Bi _) (own_Bi _) (own_Bi _) (own_Bi 0) (own_Bi 0)).2.1.1 (n := 257) rfl ?_
              refine dload P at_257 rfl (n := 259) rfl ?_
              refine dload P at_259 rfl (n := 261) rfl ?_
              refine dmul P at_261 (own_nm (own_Bi _) (own_Bi _)) (n := 262) rfl ?_
              refine dadd P at_262 (own_all (own_Bi _) (own_Bi _) (own_Bi _) (own_Bi _) (own_Bi _) (own_Bi _)).2.1.2 (n := 263) rfl ?_
              refine dstore P at_263 (l' := #[.val (.int p0), .val (.int p1), .val (.int p2), .val (.int q), .val (.double (FP.i2d (p0.toInt8.toInt32))), .second, .val (.double (FP.i2d ((p0 >>> ((8 : Int32) &&& 31)).toInt8.toInt32))), .second, .val (.double (FP.i2d ((p0 >>> ((16 : Int32) &&& 31)).toInt8.toInt32))), .second, .val (.double (FP.i2d (p1.toInt8.toInt32))), .second, .val (.double (FP.i2d ((p1 >>> ((8 : Int32) &&& 31)).toInt8.toInt32))), .second, .val (.double (FP.i2d ((p1 >>> ((16 : Int32) &&& 31)).toInt8.toInt32))), .second, .val (.double (FP.i2d (p2.toInt8.toInt32))), .second, .val (.double (FP.i2d ((p2 >>> ((8 : Int32) &&& 31)).toInt8.toInt32))), .second, .val (.double (FP.i2d ((p2 >>> ((16 : Int32) &&& 31)).toInt8.toInt32))), .second, .val (.double (FP.i2d ((q >>> ((8 : Int32) &&& 31)).toInt8.toInt32))), .second, .val (.double (FP.i2d ((q >>> ((16 : Int32) &&& 31)).toInt8.toInt32))), .second, .val (.int (1 : Int32)), .val (.ref b35), .val (.ref b45), .val (.ref b55), .val (.ref a), .val (.double (FP.i2d ((q >>> ((16 : Int32) &&& 31)).toInt8.toInt32))), .second, .val (.double (FP.i2d ((p1 >>> ((16 : Int32) &&& 31)).toInt8.toInt32))), .second, .val (.double (FP.i2d ((p2 >>> ((8 : Int32) &&& 31)).toInt8.toInt32))), .second, .val (.double (FP.dadd (FP.dadd (FP.dmul (FP.i2d (p0.toInt8.toInt32)) (FP.i2d ((q >>> ((16 : Int32) &&& 31)).toInt8.toInt32))) (FP.dmul (FP.i2d (p1.toInt8.toInt32)) (FP.i2d ((p1 >>> ((16 : Int32) &&& 31)).toInt8.toInt32)))) (FP.dmul (FP.i2d (p2.toInt8.toInt32)) (FP.i2d ((p2 >>> ((8 : Int32) &&& 31)).toInt8.toInt32))))), .second]) rfl (n := 265) rfl ?_
              refine aload P at_265 rfl rfl (n := 267) rfl ?_
              have ev0 : gv9 0 = (FP.i2d ((q >>> ((16 : Int32) &&& 31)).toInt8.toInt32)) := hv0.trans (if_neg (Int.not_lt.mpr hc202))
              have ev1 : gv9 1 = (FP.i2d ((p1 >>> ((16 : Int32) &&& 31)).toInt8.toInt32)) := hv1.trans (if_neg (Int.not_lt.mpr hc218))
              have ev2 : gv9 2 = (FP.i2d ((p2 >>> ((8 : Int32) &&& 31)).toInt8.toInt32)) := hv2.trans (if_pos hc234)
              refine callV P at_267 (a := a) (argsL := []) (rest := []) (c_obj l Z a0 hw a kc kl ku kv kp kr gc gl9 gu9 gv9 h69 n0 P.low S9 (by rw [gc0]; exact own_Bi _) (by rw [gc1]; exact own_Bi _) (by rw [gc2]; exact own_Bi _) (by rw [ev0]; exact own_Bi _) (by rw [ev1]; exact own_Bi _) (by rw [ev2]; exact own_Bi _)) S9.1 (hw _ (List.mem_of_getElem? (i := 76) rfl)) (hw _ (List.mem_of_getElem? (i := 77) rfl)) (notFace_of_selects (args := #[]) (mvT P.hZ (hw _ (List.mem_of_getElem? (i := 79) rfl)))) (hw _ (List.mem_of_getElem? (i := 79) rfl)) (hw _ (List.mem_of_getElem? (i := 78) rfl)) (hw _ (List.mem_of_getElem? (i := 3) rfl)) (hw _ (List.mem_of_getElem? (i := 80) rfl)) (by decide) pd_4 rfl rfl rfl ⟨by decide, Nat.le_of_ble_eq_true rfl, by decide, by decide⟩ (n := 270) rfl (Ret.on ?_)
              intro T P
              refine dload P at_270 rfl (n := 272) rfl ?_
              refine dcmp P at_272 (v := (0 : Int32)) (by rw [ev0, ev1, ev2, gc0, gc1, gc2]; exact (own_all (own_Bi _) (own_Bi _) (own_Bi _) (own_Bi _) (own_Bi _) (own_Bi _)).2.2) (n := 273) rfl ?_
              refine if0_ne P at_273 (n' := 280) (n := 276) (by decide) rfl (fun hc273 => ?_) (fun hc273 => ?_)
              · -- pc 273 taken
                replace hc273 : ¬ (0 : Int) = (0 : Int) := hc273
                exact absurd hc273 (by decide)
              · -- pc 273 not taken
                replace hc273 : (0 : Int) = (0 : Int) := hc273
                refine iconst P at_276 (x := (1 : Int32)) rfl (n := 277) rfl ?_
                refine goto P at_277 (n := 281) (by decide) ?_
                refine retZ P at_281 (by decide) (by decide) (by decide) ?_
                exact rfl
            · -- pc 234 not taken
              replace hc234 : (0 : Int) ≤ (own_v (FP.i2d (p2.toInt8.toInt32))).toInt := hc234
              refine dload P at_237 rfl (n := 239) rfl ?_
              refine goto P at_239 (n := 244) (by decide) ?_
              refine dstore P at_244 (l' := #[.val (.int p0), .val (.int p1), .val (.int p2), .val (.int q), .val (.double (FP.i2d (p0.toInt8.toInt32))), .second, .val (.double (FP.i2d ((p0 >>> ((8 : Int32) &&& 31)).toInt8.toInt32))), .second, .val (.double (FP.i2d ((p0 >>> ((16 : Int32) &&& 31)).toInt8.toInt32))), .second, .val (.double (FP.i2d (p1.toInt8.toInt32))), .second, .val (.double (FP.i2d ((p1 >>> ((8 : Int32) &&& 31)).toInt8.toInt32))), .second, .val (.double (FP.i2d ((p1 >>> ((16 : Int32) &&& 31)).toInt8.toInt32))), .second, .val (.double (FP.i2d (p2.toInt8.toInt32))), .second, .val (.double (FP.i2d ((p2 >>> ((8 : Int32) &&& 31)).toInt8.toInt32))), .second, .val (.double (FP.i2d ((p2 >>> ((16 : Int32) &&& 31)).toInt8.toInt32))), .second, .val (.double (FP.i2d ((q >>> ((8 : Int32) &&& 31)).toInt8.toInt32))), .second, .val (.double (FP.i2d ((q >>> ((16 : Int32) &&& 31)).toInt8.toInt32))), .second, .val (.int (1 : Int32)), .val (.ref b35), .val (.ref b45), .val (.ref b55), .val (.ref a), .val (.double (FP.i2d ((q >>> ((16 : Int32) &&& 31)).toInt8.toInt32))), .second, .val (.double (FP.i2d ((p1 >>> ((16 : Int32) &&& 31)).toInt8.toInt32))), .second, .val (.double (FP.i2d ((p2 >>> ((16 : Int32) &&& 31)).toInt8.toInt32))), .second, .unset, .unset]) rfl (n := 246) rfl ?_
              refine dload P at_246 rfl (n := 248) rfl ?_
              refine dload P at_248 rfl (n := 250) rfl ?_
              refine dmul P at_250 (own_nm (own_Bi _) (own_Bi _)) (n := 251) rfl ?_
              refine dload P at_251 rfl (n := 253) rfl ?_
              refine dload P at_253 rfl (n := 255) rfl ?_
              refine dmul P at_255 (own_nm (own_Bi _) (own_Bi _)) (n := 256) rfl ?_
              refine dadd P at_256 (own_all (own_Bi _) (own_Bi _) (own_Bi _) (own_Bi _) (own_Bi 0) (own_Bi 0)).2.1.1 (n := 257) rfl ?_
              refine dload P at_257 rfl (n := 259) rfl ?_
              refine dload P at_259 rfl (n := 261) rfl ?_
              refine dmul P at_261 (own_nm (own_Bi _) (own_Bi _)) (n := 262) rfl ?_
              refine dadd P at_262 (own_all (own_Bi _) (own_Bi _) (own_Bi _) (own_Bi _) (own_Bi _) (own_Bi _)).2.1.2 (n := 263) rfl ?_
              refine dstore P at_263 (l' := #[.val (.int p0), .val (.int p1), .val (.int p2), .val (.int q), .val (.double (FP.i2d (p0.toInt8.toInt32))), .second, .val (.double (FP.i2d ((p0 >>> ((8 : Int32) &&& 31)).toInt8.toInt32))), .second, .val (.double (FP.i2d ((p0 >>> ((16 : Int32) &&& 31)).toInt8.toInt32))), .second, .val (.double (FP.i2d (p1.toInt8.toInt32))), .second, .val (.double (FP.i2d ((p1 >>> ((8 : Int32) &&& 31)).toInt8.toInt32))), .second, .val (.double (FP.i2d ((p1 >>> ((16 : Int32) &&& 31)).toInt8.toInt32))), .second, .val (.double (FP.i2d (p2.toInt8.toInt32))), .second, .val (.double (FP.i2d ((p2 >>> ((8 : Int32) &&& 31)).toInt8.toInt32))), .second, .val (.double (FP.i2d ((p2 >>> ((16 : Int32) &&& 31)).toInt8.toInt32))), .second, .val (.double (FP.i2d ((q >>> ((8 : Int32) &&& 31)).toInt8.toInt32))), .second, .val (.double (FP.i2d ((q >>> ((16 : Int32) &&& 31)).toInt8.toInt32))), .second, .val (.int (1 : Int32)), .val (.ref b35), .val (.ref b45), .val (.ref b55), .val (.ref a), .val (.double (FP.i2d ((q >>> ((16 : Int32) &&& 31)).toInt8.toInt32))), .second, .val (.double (FP.i2d ((p1 >>> ((16 : Int32) &&& 31)).toInt8.toInt32))), .second, .val (.double (FP.i2d ((p2 >>> ((16 : Int32) &&& 31)).toInt8.toInt32))), .second, .val (.double (FP.dadd (FP.dadd (FP.dmul (FP.i2d (p0.toInt8.toInt32)) (FP.i2d ((q >>> ((16 : Int32) &&& 31)).toInt8.toInt32))) (FP.dmul (FP.i2d (p1.toInt8.toInt32)) (FP.i2d ((p1 >>> ((16 : Int32) &&& 31)).toInt8.toInt32)))) (FP.dmul (FP.i2d (p2.toInt8.toInt32)) (FP.i2d ((p2 >>> ((16 : Int32) &&& 31)).toInt8.toInt32))))), .second]) rfl (n := 265) rfl ?_
              refine aload P at_265 rfl rfl (n := 267) rfl ?_
              have ev0 : gv9 0 = (FP.i2d ((q >>> ((16 : Int32) &&& 31)).toInt8.toInt32)) := hv0.trans (if_neg (Int.not_lt.mpr hc202))
              have ev1 : gv9 1 = (FP.i2d ((p1 >>> ((16 : Int32) &&& 31)).toInt8.toInt32)) := hv1.trans (if_neg (Int.not_lt.mpr hc218))
              have ev2 : gv9 2 = (FP.i2d ((p2 >>> ((16 : Int32) &&& 31)).toInt8.toInt32)) := hv2.trans (if_neg (Int.not_lt.mpr hc234))
              refine callV P at_267 (a := a) (argsL := []) (rest := []) (c_obj l Z a0 hw a kc kl ku kv kp kr gc gl9 gu9 gv9 h69 n0 P.low S9 (by rw [gc0]; exact own_Bi _) (by rw [gc1]; exact own_Bi _) (by rw [gc2]; exact own_Bi _) (by rw [ev0]; exact own_Bi _) (by rw [ev1]; exact own_Bi _) (by rw [ev2]; exact own_Bi _)) S9.1 (hw _ (List.mem_of_getElem? (i := 76) rfl)) (hw _ (List.mem_of_getElem? (i := 77) rfl)) (notFace_of_selects (args := #[]) (mvT P.hZ (hw _ (List.mem_of_getElem? (i := 79) rfl)))) (hw _ (List.mem_of_getElem? (i := 79) rfl)) (hw _ (List.mem_of_getElem? (i := 78) rfl)) (hw _ (List.mem_of_getElem? (i := 3) rfl)) (hw _ (List.mem_of_getElem? (i := 80) rfl)) (by decide) pd_4 rfl rfl rfl ⟨by decide, Nat.le_of_ble_eq_true rfl, by decide, by decide⟩ (n := 270) rfl (Ret.on ?_)
              intro T P
              refine dload P at_270 rfl (n := 272) rfl ?_
              refine dcmp P at_272 (v := (0 : Int32)) (by rw [ev0, ev1, ev2, gc0, gc1, gc2]; exact (own_all (own_Bi _) (own_Bi _) (own_Bi _) (own_Bi _) (own_Bi _) (own_Bi _)).2.2) (n := 273) rfl ?_
              refine if0_ne P at_273 (n' := 280) (n := 276) (by decide) rfl (fun hc273 => ?_) (fun hc273 => ?_)
              · -- pc 273 taken
                replace hc273 : ¬ (0 : Int) = (0 : Int) := hc273
                exact absurd hc273 (by decide)
              · -- pc 273 not taken
                replace hc273 : (0 : Int) = (0 : Int) := hc273
                refine iconst P at_276 (x := (1 : Int32)) rfl (n := 277) rfl ?_
                refine goto P at_277 (n := 281) (by decide) ?_
                refine retZ P at_281 (by decide) (by decide) (by decide) ?_
                exact rfl
    · -- pc 171 not taken
      replace hc171 : (0 : Int) ≤ (own_v (FP.i2d (p0.toInt8.toInt32))).toInt := hc171
      refine dload P at_174 rfl (n := 176) rfl ?_
      refine goto P at_176 (n := 181) (by decide) ?_
      refine dstore P at_181 (l' := #[.val (.int p0), .val (.int p1), .val (.int p2), .val (.int q), .val (.double (FP.i2d (p0.toInt8.toInt32))), .second, .val (.double (FP.i2d ((p0 >>> ((8 : Int32) &&& 31)).toInt8.toInt32))), .second, .val (.double (FP.i2d ((p0 >>> ((16 : Int32) &&& 31)).toInt8.toInt32))), .second, .val (.double (FP.i2d (p1.toInt8.toInt32))), .second, .val (.double (FP.i2d ((p1 >>> ((8 : Int32) &&& 31)).toInt8.toInt32))), .second, .val (.double (FP.i2d ((p1 >>> ((16 : Int32) &&& 31)).toInt8.toInt32))), .second, .val (.double (FP.i2d (p2.toInt8.toInt32))), .second, .val (.double (FP.i2d ((p2 >>> ((8 : Int32) &&& 31)).toInt8.toInt32))), .second, .val (.double (FP.i2d ((p2 >>> ((16 : Int32) &&& 31)).toInt8.toInt32))), .second, .val (.double (FP.i2d ((q >>> ((8 : Int32) &&& 31)).toInt8.toInt32))), .second, .val (.double (FP.i2d ((q >>> ((16 : Int32) &&& 31)).toInt8.toInt32))), .second, .val (.int (1 : Int32)), .val (.ref b35), .val (.ref b45), .val (.ref b55), .val (.ref a), .val (.double (FP.i2d ((p0 >>> ((16 : Int32) &&& 31)).toInt8.toInt32))), .second, .unset, .unset, .unset, .unset, .unset, .unset]) rfl (n := 183) rfl ?_
      refine iload P at_183 rfl (n := 185) rfl ?_
      refine if0_eq P at_185 (n' := 214) (n := 188) (by decide) rfl (fun hc185 => ?_) (fun hc185 => ?_)
      · -- pc 185 taken
        replace hc185 : (1 : Int) = (0 : Int) := hc185
        exact absurd hc185 (by decide)
      · -- pc 185 not taken
        replace hc185 : ¬ (1 : Int) = (0 : Int) := hc185
        refine aload P at_188 rfl rfl (n := 190) rfl ?_
        refine iconst P at_190 (x := (0 : Int32)) rfl (n := 191) rfl ?_
        refine dload P at_191 rfl (n := 193) rfl ?_
        refine dload P at_193 rfl (n := 195) rfl ?_
        refine callV P at_195 (a := a) (argsL := [(.int (0 : Int32)), (.double (FP.i2d ((q >>> ((8 : Int32) &&& 31)).toInt8.toInt32))), (.double (FP.i2d ((q >>> ((16 : Int32) &&& 31)).toInt8.toInt32)))]) (rest := []) (c_set l Z a0 hw a (0 : Int32) (FP.i2d ((q >>> ((8 : Int32) &&& 31)).toInt8.toInt32)) (FP.i2d ((q >>> ((16 : Int32) &&& 31)).toInt8.toInt32)) kc kl ku kv kp kr gc gl gu gv h68 n0 P.low S9 rfl) S9.1 (hw _ (List.mem_of_getElem? (i := 71) rfl)) (hw _ (List.mem_of_getElem? (i := 72) rfl)) (notFace_of_selects (args := #[]) (mvT P.hZ (hw _ (List.mem_of_getElem? (i := 74) rfl)))) (hw _ (List.mem_of_getElem? (i := 74) rfl)) (hw _ (List.mem_of_getElem? (i := 73) rfl)) (hw _ (List.mem_of_getElem? (i := 3) rfl)) (hw _ (List.mem_of_getElem? (i := 75) rfl)) (by decide) pd_3 rfl rfl rfl ⟨by decide, Nat.le_of_ble_eq_true rfl, by decide, by decide⟩ (n := 198) rfl ?_
        rintro T h70 v P ⟨rfl, gl9, gu9, gv9, S9, hv0, hw1, hw2⟩
        show Jvm.Own.Ends p e below s room_1 n0 (fun v _ => v = some (.int 1)) T (mkF m 198 #[.val (.int p0), .val (.int p1), .val (.int p2), .val (.int q), .val (.double (FP.i2d (p0.toInt8.toInt32))), .second, .val (.double (FP.i2d ((p0 >>> ((8 : Int32) &&& 31)).toInt8.toInt32))), .second, .val (.double (FP.i2d ((p0 >>> ((16 : Int32) &&& 31)).toInt8.toInt32))), .second, .val (.double (FP.i2d (p1.toInt8.toInt32))), .second, .val (.double (FP.i2d ((p1 >>> ((8 : Int32) &&& 31)).toInt8.toInt32))), .second, .val (.double (FP.i2d ((p1 >>> ((16 : Int32) &&& 31)).toInt8.toInt32))), .second, .val (.double (FP.i2d (p2.toInt8.toInt32))), .second, .val (.double (FP.i2d ((p2 >>> ((8 : Int32) &&& 31)).toInt8.toInt32))), .second, .val (.double (FP.i2d ((p2 >>> ((16 : Int32) &&& 31)).toInt8.toInt32))), .second, .val (.double (FP.i2d ((q >>> ((8 : Int32) &&& 31)).toInt8.toInt32))), .second, .val (.double (FP.i2d ((q >>> ((16 : Int32) &&& 31)).toInt8.toInt32))), .second, .val (.int (1 : Int32)), .val (.ref b35), .val (.ref b45), .val (.ref b55), .val (.ref a), .val (.double (FP.i2d ((p0 >>> ((16 : Int32) &&& 31)).toInt8.toInt32))), .second, .unset, .unset, .unset, .unset, .unset, .unset] [])
        rw [gc0] at hv0
        rw [hv1] at hw1
        rw [hv2] at hw2
        replace hv1 := hw1
        replace hv2 := hw2
        refine dload P at_198 rfl (n := 200) rfl ?_
        refine dconst0 P at_200 (n := 201) rfl ?_
        refine dcmp P at_201 (v := (own_v (FP.i2d (p0.toInt8.toInt32)))) rfl (n := 202) rfl ?_
        refine if0_lt P at_202 (n' := 210) (n := 205) (by decide) rfl (fun hc202 => ?_) (fun hc202 => ?_)
        · -- pc 202 taken
          replace hc202 : (own_v (FP.i2d (p0.toInt8.toInt32))).toInt < (0 : Int) := hc202
          refine dload P at_210 rfl (n := 212) rfl ?_
          refine dstore P at_212 (l' := #[.val (.int p0), .val (.int p1), .val (.int p2), .val (.int q), .val (.double (FP.i2d (p0.toInt8.toInt32))), .second, .val (.double (FP.i2d ((p0 >>> ((8 : Int32) &&& 31)).toInt8.toInt32))), .second, .val (.double (FP.i2d ((p0 >>> ((16 : Int32) &&& 31)).toInt8.toInt32))), .second, .val (.double (FP.i2d (p1.toInt8.toInt32))), .second, .val (.double (FP.i2d ((p1 >>> ((8 : Int32) &&& 31)).toInt8.toInt32))), .second, .val (.double (FP.i2d ((p1 >>> ((16 : Int32) &&& 31)).toInt8.toInt32))), .second, .val (.double (FP.i2d (p2.toInt8.toInt32))), .second, .val (.double (FP.i2d ((p2 >>> ((8 : Int32) &&& 31)).toInt8.toInt32))), .second, .val (.double (FP.i2d ((p2 >>> ((16 : Int32) &&& 31)).toInt8.toInt32))), .second, .val (.double (FP.i2d ((q >>> ((8 : Int32) &&& 31)).toInt8.toInt32))), .second, .val (.double (FP.i2d ((q >>> ((16 : Int32) &&& 31)).toInt8.toInt32))), .second, .val (.int (1 : Int32)), .val (.ref b35), .val (.ref b45), .val (.ref b55), .val (.ref a), .val (.double (FP.i2d ((q >>> ((8 : Int32) &&& 31)).toInt8.toInt32))), .second, .unset, .unset, .unset, .unset, .unset, .unset]) rfl (n := 214) rfl ?_
          refine dload P at_214 rfl (n := 216) rfl ?_
          refine dconst0 P at_216 (n := 217) rfl ?_
          refine dcmp P at_217 (v := (own_v (FP.i2d (p1.toInt8.toInt32)))) rfl (n := 218) rfl ?_
          refine if0_lt P at_218 (n' := 226) (n := 221) (by decide) rfl (fun hc218 => ?_) (fun hc218 => ?_)
          · -- pc 218 taken
            replace hc218 : (own_v (FP.i2d (p1.toInt8.toInt32))).toInt < (0 : Int) := hc218
            refine dload P at_226 rfl (n := 228) rfl ?_
            refine dstore P at_228 (l' := #[.val (.int p0), .val (.int p1), .val (.int p2), .val (.int q), .val (.double (FP.i2d (p0.toInt8.toInt32))), .second, .val (.double (FP.i2d ((p0 >>> ((8 : Int32) &&& 31)).toInt8.toInt32))), .second, .val (.double (FP.i2d ((p0 >>> ((16 : Int32) &&& 31)).toInt8.toInt32))), .second, .val (.double (FP.i2d (p1.toInt8.toInt32))), .second, .val (.double (FP.i2d ((p1 >>> ((8 : Int32) &&& 31)).toInt8.toInt32))), .second, .val (.double (FP.i2d ((p1 >>> ((16 : Int32) &&& 31)).toInt8.toInt32))), .second, .val (.double (FP.i2d (p2.toInt8.toInt32))), .second, .val (.double (FP.i2d ((p2 >>> ((8 : Int32) &&& 31)).toInt8.toInt32))), .second, .val (.double (FP.i2d ((p2 >>> ((16 : Int32) &&& 31)).toInt8.toInt32))), .second, .val (.double (FP.i2d ((q >>> ((8 : Int32) &&& 31)).toInt8.toInt32))), .second, .val (.double (FP.i2d ((q >>> ((16 : Int32) &&& 31)).toInt8.toInt32))), .second, .val (.int (1 : Int32)), .val (.ref b35), .val (.ref b45), .val (.ref b55), .val (.ref a), .val (.double (FP.i2d ((q >>> ((8 : Int32) &&& 31)).toInt8.toInt32))), .second, .val (.double (FP.i2d ((p1 >>> ((8 : Int32) &&& 31)).toInt8.toInt32))), .second, .unset, .unset, .unset, .unset]) rfl (n := 230) rfl ?_
            refine dload P at_230 rfl (n := 232) rfl ?_
            refine dconst0 P at_232 (n := 233) rfl ?_
            refine dcmp P at_233 (v := (own_v (FP.i2d (p2.toInt8.toInt32)))) rfl (n := 234) rfl ?_
            refine if0_lt P at_234 (n' := 242) (n := 237) (by decide) rfl (fun hc234 => ?_) (fun hc234 => ?_)
            · -- pc 234 taken
              replace hc234 : (own_v (FP.i2d (p2.toInt8.toInt32))).toInt < (0 : Int) := hc234
              refine dload P at_242 rfl (n := 244) rfl ?_
              refine dstore P at_244 (l' := #[.val (.int p0), .val (.int p1), .val (.int p2), .val (.int q), .val (.double (FP.i2d (p0.toInt8.toInt32))), .second, .val (.double (FP.i2d ((p0 >>> ((8 : Int32) &&& 31)).toInt8.toInt32))), .second, .val (.double (FP.i2d ((p0 >>> ((16 : Int32) &&& 31)).toInt8.toInt32))), .second, .val (.double (FP.i2d (p1.toInt8.toInt32))), .second, .val (.double (FP.i2d ((p1 >>> ((8 : Int32) &&& 31)).toInt8.toInt32))), .second, .val (.double (FP.i2d ((p1 >>> ((16 : Int32) &&& 31)).toInt8.toInt32))), .second, .val (.double (FP.i2d (p2.toInt8.toInt32))), .second, .val (.double (FP.i2d ((p2 >>> ((8 : Int32) &&& 31)).toInt8.toInt32))), .second, .val (.double (FP.i2d ((p2 >>> ((16 : Int32) &&& 31)).toInt8.toInt32))), .second, .val (.double (FP.i2d ((q >>> ((8 : Int32) &&& 31)).toInt8.toInt32))), .second, .val (.double (FP.i2d ((q >>> ((16 : Int32) &&& 31)).toInt8.toInt32))), .second, .val (.int (1 : Int32)), .val (.ref b35), .val (.ref b45), .val (.ref b55), .val (.ref a), .val (.double (FP.i2d ((q >>> ((8 : Int32) &&& 31)).toInt8.toInt32))), .second, .val (.double (FP.i2d ((p1 >>> ((8 : Int32) &&& 31)).toInt8.toInt32))), .second, .val (.double (FP.i2d ((p2 >>> ((8 : Int32) &&& 31)).toInt8.toInt32))), .second, .unset, .unset]) rfl (n := 246) rfl ?_
              refine dload P at_246 rfl (n := 248) rfl ?_
              refine dload P at_248 rfl (n := 250) rfl ?_
              refine dmul P at_250 (own_nm (own_Bi _) (own_Bi _)) (n := 251) rfl ?_
              refine dload P at_251 rfl (n := 253) rfl ?_
              refine dload P at_253 rfl (n := 255) rfl ?_
              refine dmul P at_255 (own_nm (own_Bi _) (own_Bi _)) (n := 256) rfl ?_
              refine dadd P at_256 (own_all (own_Bi _) (own_Bi _) (own_Bi _) (own_Bi _) (own_Bi 0) (own_Bi 0)).2.1.1 (n := 257) rfl ?_
              refine dload P at_257 rfl (n := 259) rfl ?_
              refine dload P at_259 rfl (n := 261) rfl ?_
              refine dmul P at_261 (own_nm (own_Bi _) (own_Bi _)) (n := 262) rfl ?_
              refine dadd P at_262 (own_all (own_Bi _) (own_Bi _) (own_Bi _) (own_Bi _) (own_Bi _) (own_Bi _)).2.1.2 (n := 263) rfl ?_
              refine dstore P at_263 (l' := #[.val (.int p0), .val (.int p1), .val (.int p2), .val (.int q), .val (.double (FP.i2d (p0.toInt8.toInt32))), .second, .val (.double (FP.i2d ((p0 >>> ((8 : Int32) &&& 31)).toInt8.toInt32))), .second, .val (.double (FP.i2d ((p0 >>> ((16 : Int32) &&& 31)).toInt8.toInt32))), .second, .val (.double (FP.i2d (p1.toInt8.toInt32))), .second, .val (.double (FP.i2d ((p1 >>> ((8 : Int32) &&& 31)).toInt8.toInt32))), .second, .val (.double (FP.i2d ((p1 >>> ((16 : Int32) &&& 31)).toInt8.toInt32))), .second, .val (.double (FP.i2d (p2.toInt8.toInt32))), .second, .val (.double (FP.i2d ((p2 >>> ((8 : Int32) &&& 31)).toInt8.toInt32))), .second, .val (.double (FP.i2d ((p2 >>> ((16 : Int32) &&& 31)).toInt8.toInt32))), .second, .val (.double (FP.i2d ((q >>> ((8 : Int32) &&& 31)).toInt8.toInt32))), .second, .val (.double (FP.i2d ((q >>> ((16 : Int32) &&& 31)).toInt8.toInt32))), .second, .val (.int (1 : Int32)), .val (.ref b35), .val (.ref b45), .val (.ref b55), .val (.ref a), .val (.double (FP.i2d ((q >>> ((8 : Int32) &&& 31)).toInt8.toInt32))), .second, .val (.double (FP.i2d ((p1 >>> ((8 : Int32) &&& 31)).toInt8.toInt32))), .second, .val (.double (FP.i2d ((p2 >>> ((8 : Int32) &&& 31)).toInt8.toInt32))), .second, .val (.double (FP.dadd (FP.dadd (FP.dmul (FP.i2d (p0.toInt8.toInt32)) (FP.i2d ((q >>> ((8 : Int32) &&& 31)).toInt8.toInt32))) (FP.dmul (FP.i2d (p1.toInt8.toInt32)) (FP.i2d ((p1 >>> ((8 : Int32) &&& 31)).toInt8.toInt32)))) (FP.dmul (FP.i2d (p2.toInt8.toInt32)) (FP.i2d ((p2 >>> ((8 : Int32) &&& 31)).toInt8.toInt32))))), .second]) rfl (n := 265) rfl ?_
              refine aload P at_265 rfl rfl (n := 267) rfl ?_
              have ev0 : gv9 0 = (FP.i2d ((q >>> ((8 : Int32) &&& 31)).toInt8.toInt32)) := hv0.trans (if_pos hc202)
              have ev1 : gv9 1 = (FP.i2d ((p1 >>> ((8 : Int32) &&& 31)).toInt8.toInt32)) := hv1.trans (if_pos hc218)
              have ev2 : gv9 2 = (FP.i2d ((p2 >>> ((8 : Int32) &&& 31)).toInt8.toInt32)) := hv2.trans (if_pos hc234)
              refine callV P at_267 (a := a) (argsL := []) (rest := []) (c_obj l Z a0 hw a kc kl ku kv kp kr gc gl9 gu9 gv9 h70 n0 P.low S9 (by rw [gc0]; exact own_Bi _) (by rw [gc1]; exact own_Bi _) (by rw [gc2]; exact own_Bi _) (by rw [ev0]; exact own_Bi _) (by rw [ev1]; exact own_Bi _) (by rw [ev2]; exact own_Bi _)) S9.1 (hw _ (List.mem_of_getElem? (i := 76) rfl)) (hw _ (List.mem_of_getElem? (i := 77) rfl)) (notFace_of_selects (args := #[]) (mvT P.hZ (hw _ (List.mem_of_getElem? (i := 79) rfl)))) (hw _ (List.mem_of_getElem? (i := 79) rfl)) (hw _ (List.mem_of_getElem? (i := 78) rfl)) (hw _ (List.mem_of_getElem? (i := 3) rfl)) (hw _ (List.mem_of_getElem? (i := 80) rfl)) (by decide) pd_4 rfl rfl rfl ⟨by decide, Nat.le_of_ble_eq_true rfl, by decide, by decide⟩ (n := 270) rfl (Ret.on ?_)
              intro T P
              refine dload P at_270 rfl (n := 272) rfl ?_
              refine dcmp P at_272 (v := (0 : Int32)) (by rw [ev0, ev1, ev2, gc0, gc1, gc2]; exact (own_all (own_Bi _) (own_Bi _) (own_Bi _) (own_Bi _) (own_Bi _) (own_Bi _)).2.2) (n := 273) rfl ?_
              refine if0_ne P at_273 (n' := 280) (n := 276) (by decide) rfl (fun hc273 => ?_) (fun hc273 => ?_)
              · -- pc 273 taken
                replace hc273 : ¬ (0 : Int) = (0 : Int) := hc273
                exact absurd hc273 (by decide)
              · -- pc 273 not taken
                replace hc273 : (0 : Int) = (0 : Int) := hc273
                refine iconst P at_276 (x := (1 : Int32)) rfl (n := 277) rfl ?_
                refine goto P at_277 (n := 281) (by decide) ?_
                refine retZ P at_281 (by decide) (by decide) (by decide) ?_
                exact rfl
            · -- pc 234 not taken
              replace hc234 : (0 : Int) ≤ (own_v (FP.i2d (p2.toInt8.toInt32))).toInt := hc234
              refine dload P at_237 rfl (n := 239) rfl ?_
              refine goto P at_239 (n := 244) (by decide) ?_
              refine dstore P at_244 (l' := #[.val (.int p0), .val (.int p1), .val (.int p2), .val (.int q), .val (.double (FP.i2d (p0.toInt8.toInt32))), .second, .val (.double (FP.i2d ((p0 >>> ((8 : Int32) &&& 31)).toInt8.toInt32))), .second, .val (.double (FP.i2d ((p0 >>> ((16 : Int32) &&& 31)).toInt8.toInt32))), .second, .val (.double (FP.i2d (p1.toInt8.toInt32))), .second, .val (.double (FP.i2d ((p1 >>> ((8 : Int32) &&& 31)).toInt8.toInt32))), .second, .val (.double (FP.i2d ((p1 >>> ((16 : Int32) &&& 31)).toInt8.toInt32))), .second, .val (.double (FP.i2d (p2.toInt8.toInt32))), .second, .val (.double (FP.i2d ((p2 >>> ((8 : Int32) &&& 31)).toInt8.toInt32))), .second, .val (.double (FP.i2d ((p2 >>> ((16 : Int32) &&& 31)).toInt8.toInt32))), .second, .val (.double (FP.i2d ((q >>> ((8 : Int32) &&& 31)).toInt8.toInt32))), .second, .val (.double (FP.i2d ((q >>> ((16 : Int32) &&& 31)).toInt8.toInt32))), .second, .val (.int (1 : Int32)), .val (.ref b35), .val (.ref b45), .val (.ref b55), .val (.ref a), .val (.double (FP.i2d ((q >>> ((8 : Int32) &&& 31)).toInt8.toInt32))), .second, .val (.double (FP.i2d ((p1 >>> ((8 : Int32) &&& 31)).toInt8.toInt32))), .second, .val (.double (FP.i2d ((p2 >>> ((16 : Int32) &&& 31)).toInt8.toInt32))), .second, .unset, .unset]) rfl (n := 246) rfl ?_
              refine dload P at_246 rfl (n := 248) rfl ?_
              refine dload P at_248 rfl (n := 250) rfl ?_
              refine dmul P at_250 (own_nm (own_Bi _) (own_Bi _)) (n := 251) rfl ?_
              refine dload P at_251 rfl (n := 253) rfl ?_
              refine dload P at_253 rfl (n := 255) rfl ?_
              refine dmul P at_255 (own_nm (own_Bi _) (own_Bi _)) (n := 256) rfl ?_
              refine dadd P at_256 (own_all (own_Bi _) (own_Bi _) (own_Bi _) (own_Bi _) (own_Bi 0) (own_Bi 0)).2.1.1 (n := 257) rfl ?_
              refine dload P at_257 rfl (n := 259) rfl ?_
              refine dload P at_259 rfl (n := 261) rfl ?_
              refine dmul P at_261 (own_nm (own_Bi _) (own_Bi _)) (n := 262) rfl ?_
              refine dadd P at_262 (own_all (own_Bi _) (own_Bi _) (own_Bi _) (own_Bi _) (own_Bi _) (own_Bi _)).2.1.2 (n := 263) rfl ?_
              refine dstore P at_263 (l' := #[.val (.int p0), .val (.int p1), .val (.int p2), .val (.int q), .val (.double (FP.i2d (p0.toInt8.toInt32))), .second, .val (.double (FP.i2d ((p0 >>> ((8 : Int32) &&& 31)).toInt8.toInt32))), .second, .val (.double (FP.i2d ((p0 >>> ((16 : Int32) &&& 31)).toInt8.toInt32))), .second, .val (.double (FP.i2d (p1.toInt8.toInt32))), .second, .val (.double (FP.i2d ((p1 >>> ((8 : Int32) &&& 31)).toInt8.toInt32))), .second, .val (.double (FP.i2d ((p1 >>> ((16 : Int32) &&& 31)).toInt8.toInt32))), .second, .val (.double (FP.i2d (p2.toInt8.toInt32))), .second, .val (.double (FP.i2d ((p2 >>> ((8 : Int32) &&& 31)).toInt8.toInt32))), .second, .val (.double (FP.i2d ((p2 >>> ((16 : Int32) &&& 31)).toInt8.toInt32))), .second, .val (.double (FP.i2d ((q >>> ((8 : Int32) &&& 31)).toInt8.toInt32))), .second, .val (.double (FP.i2d ((q >>> ((16 : Int32) &&& 31)).toInt8.toInt32))), .second, .val (.int (1 : Int32)), .val (.ref b35), .val (.ref b45), .val (.ref b55), .val (.ref a), .val (.double (FP.i2d ((q >>> ((8 : Int32) &&& 31)).toInt8.toInt32))), .second, .val (.double (FP.i2d ((p1 >>> ((8 : Int32) &&& 31)).toInt8.toInt32))), .second, .val (.double (FP.i2d ((p2 >>> ((16 : Int32) &&& 31)).toInt8.toInt32))), .second, .val (.double (FP.dadd (FP.dadd (FP.dmul (FP.i2d (p0.toInt8.toInt32)) (FP.i2d ((q >>> ((8 : Int32) &&& 31)).toInt8.toInt32))) (FP.dmul (FP.i2d (p1.toInt8.toInt32)) (FP.i2d ((p1 >>> ((8 : Int32) &&& 31)).toInt8.toInt32)))) (FP.dmul (FP.i2d (p2.toInt8.toInt32)) (FP.i2d ((p2 >>> ((16 : Int32) &&& 31)).toInt8.toInt32))))), .second]) rfl (n := 265) rfl ?_
              refine aload P at_265 rfl rfl (n := 267) rfl ?_
              have ev0 : gv9 0 = (FP.i2d ((q >>> ((8 : Int32) &&& 31)).toInt8.toInt32)) := hv0.trans (if_pos hc202)
              have ev1 : gv9 1 = (FP.i2d ((p1 >>> ((8 : Int32) &&& 31)).toInt8.toInt32)) := hv1.trans (if_pos hc218)
              have ev2 : gv9 2 = (FP.i2d ((p2 >>> ((16 : Int32) &&& 31)).toInt8.toInt32)) := hv2.trans (if_neg (Int.not_lt.mpr hc234))
              refine callV P at_267 (a := a) (argsL := []) (rest := []) (c_obj l Z a0 hw a kc kl ku kv kp kr gc gl9 gu9 gv9 h70 n0 P.low S9 (by rw [gc0]; exact own_Bi _) (by rw [gc1]; exact own_Bi _) (by rw [gc2]; exact own_Bi _) (by rw [ev0]; exact own_Bi _) (by rw [ev1]; exact own_Bi _) (by rw [ev2]; exact own_Bi _)) S9.1 (hw _ (List.mem_of_getElem? (i := 76) rfl)) (hw _ (List.mem_of_getElem? (i := 77) rfl)) (notFace_of_selects (args := #[]) (mvT P.hZ (hw _ (List.mem_of_getElem? (i := 79) rfl)))) (hw _ (List.mem_of_getElem? (i := 79) rfl)) (hw _ (List.mem_of_getElem? (i := 78) rfl)) (hw _ (List.mem_of_getElem? (i := 3) rfl)) (hw _ (List.mem_of_getElem? (i := 80) rfl)) (by decide) pd_4 rfl rfl rfl ⟨by decide, Nat.le_of_ble_eq_true rfl, by decide, by decide⟩ (n := 270) rfl (Ret.on ?_)
              intro T P
              refine dload P at_270 rfl (n := 272) rfl ?_
              refine dcmp P at_272 (v := (0 : Int32)) (by rw [ev0, ev1, ev2, gc0, gc1, gc2]; exact (own_all (own_Bi _) (own_Bi _) (own_Bi _) (own_Bi _) (own_Bi _) (own_Bi _)).2.2) (n := 273) rfl ?_
              refine if0_ne P at_273 (n' := 280) (n := 276) (by decide) rfl (fun hc273 => ?_) (fun hc273 => ?_)
              · -- pc 273 taken
                replace hc273 : ¬ (0 : Int) = (0 : Int) := hc273
                exact absurd hc273 (by decide)
              · -- pc 273 not taken
                replace hc273 : (0 : Int) = (0 : Int) := hc273
                refine iconst P at_276 (x := (1 : Int32)) rfl (n := 277) rfl ?_
                refine goto P at_277 (n := 281) (by decide) ?_
                refine retZ P at_281 (by decide) (by decide) (by decide) ?_
                exact rfl
          · -- pc 218 not taken
            replace hc218 : (0 : Int) ≤ (own_v (FP.i2d (p1.toInt8.toInt32))).toInt := hc218
            refine dload P at_221 rfl (n := 223) rfl ?_
            refine goto P at_223 (n := 228) (by decide) ?_
            refine dstore P at_228 (l' := #[.val (.int p0), .val (.int p1), .val (.int p2), .val (.int q), .val (.double (FP.i2d (p0.toInt8.toInt32))), .second, .val (.double (FP.i2d ((p0 >>> ((8 : Int32) &&& 31)).toInt8.toInt32))), .second, .val (.double (FP.i2d ((p0 >>> ((16 : Int32) &&& 31)).toInt8.toInt32))), .second, .val (.double (FP.i2d (p1.toInt8.toInt32))), .second, .val (.double (FP.i2d ((p1 >>> ((8 : Int32) &&& 31)).toInt8.toInt32))), .second, .val (.double (FP.i2d ((p1 >>> ((16 : Int32) &&& 31)).toInt8.toInt32))), .second, .val (.double (FP.i2d (p2.toInt8.toInt32))), .second, .val (.double (FP.i2d ((p2 >>> ((8 : Int32) &&& 31)).toInt8.toInt32))), .second, .val (.double (FP.i2d ((p2 >>> ((16 : Int32) &&& 31)).toInt8.toInt32))), .second, .val (.double (FP.i2d ((q >>> ((8 : Int32) &&& 31)).toInt8.toInt32))), .second, .val (.double (FP.i2d ((q >>> ((16 : Int32) &&& 31)).toInt8.toInt32))), .second, .val (.int (1 : Int32)), .val (.ref b35), .val (.ref b45), .val (.ref b55), .val (.ref a), .val (.double (FP.i2d ((q >>> ((8 : Int32) &&& 31)).toInt8.toInt32))), .second, .val (.double (FP.i2d ((p1 >>> ((16 : Int32) &&& 31)).toInt8.toInt32))), .second, .unset, .unset, .unset, .unset]) rfl (n := 230) rfl ?_
            refine dload P at_230 rfl (n := 232) rfl ?_
            refine dconst0 P at_232 (n := 233) rfl ?_
            refine dcmp P at_233 (v := (own_v (FP.i2d (p2.toInt8.toInt32)))) rfl (n := 234) rfl ?_
            refine if0_lt P at_234 (n' := 242) (n := 237) (by decide) rfl (fun hc234 => ?_) (fun hc234 => ?_)
            · -- pc 234 taken
              replace hc234 : (own_v (FP.i2d (p2.toInt8.toInt32))).toInt < (0 : Int) := hc234
              refine dload P at_242 rfl (n := 244) rfl ?_
              refine dstore P at_244 (l' := #[.val (.int p0), .val (.int p1), .val (.int p2), .val (.int q), .val (.double (FP.i2d (p0.toInt8.toInt32))), .second, .val (.double (FP.i2d ((p0 >>> ((8 : Int32) &&& 31)).toInt8.toInt32))), .second, .val (.double (FP.i2d ((p0 >>> ((16 : Int32) &&& 31)).toInt8.toInt32))), .second, .val (.double (FP.i2d (p1.toInt8.toInt32))), .second, .val (.double (FP.i2d ((p1 >>> ((8 : Int32) &&& 31)).toInt8.toInt32))), .second, .val (.double (FP.i2d ((p1 >>> ((16 : Int32) &&& 31)).toInt8.toInt32))), .second, .val (.double (FP.i2d (p2.toInt8.toInt32))), .second, .val (.double (FP.i2d ((p2 >>> ((8 : Int32) &&& 31)).toInt8.toInt32))), .second, .val (.double (FP.i2d ((p2 >>> ((16 : Int32) &&& 31)).toInt8.toInt32))), .second, .val (.double (FP.i2d ((q >>> ((8 : Int32) &&& 31)).toInt8.toInt32))), .second, .val (.double (FP.i2d ((q >>> ((16 : Int32) &&& 31)).toInt8.toInt32))), .second, .val (.int (1 : Int32)), .val (.ref b35), .val (.ref b45), .val (.ref b55), .val (.ref a), .val (.double (FP.i2d ((q >>> ((8 : Int32) &&& 31)).toInt8.toInt32))), .second, .val (.double (FP.i2d ((p1 >>> ((16 : Int32) &&& 31)).toInt8.toInt32))), .second, .val (.double (FP.i2d ((p2 >>> ((8 : Int32) &&& 31)).toInt8.toInt32))), .second, .unset, .unset]) rfl (n := 246) rfl ?_
              refine dload P at_246 rfl (n := 248) rfl ?_
              refine dload P at_248 rfl (n := 250) rfl ?_
              refine dmul P at_250 (own_nm (own_Bi _) (own_Bi _)) (n := 251) rfl ?_
              refine dload P at_251 rfl (n := 253) rfl ?_
              refine dload P at_253 rfl (n := 255) rfl ?_
              refine dmul P at_255 (own_nm (own_Bi _) (own_Bi _)) (n := 256) rfl ?_
              refine dadd P at_256 (own_all (own_Bi _) (own_Bi _) (own_Bi _) (own_Bi _) (own_Bi 0) (own_Bi 0)).2.1.1 (n := 257) rfl ?_
              refine dload P at_257 rfl (n := 259) rfl ?_
              refine dload P at_259 rfl (n := 261) rfl ?_
              refine dmul P at_261 (own_nm (own_Bi _) (own_Bi _)) (n := 262) rfl ?_
              refine dadd P at_262 (own_all (own_Bi _) (own_Bi _) (own_Bi _) (own_Bi _) (own_Bi _) (own_Bi _)).2.1.2 (n := 263) rfl ?_
              refine dstore P at_263 (l' := #[.val (.int p0), .val (.int p1), .val (.int p2), .val (.int q), .val (.double (FP.i2d (p0.toInt8.toInt32))), .second, .val (.double (FP.i2d ((p0 >>> ((8 : Int32) &&& 31)).toInt8.toInt32))), .second, .val (.double (FP.i2d ((p0 >>> ((16 : Int32) &&& 31)).toInt8.toInt32))), .second, .val (.double (FP.i2d (p1.toInt8.toInt32))), .second, .val (.double (FP.i2d ((p1 >>> ((8 : Int32) &&& 31)).toInt8.toInt32))), .second, .val (.double (FP.i2d ((p1 >>> ((16 : Int32) &&& 31)).toInt8.toInt32))), .second, .val (.double (FP.i2d (p2.toInt8.toInt32))), .second, .val (.double (FP.i2d ((p2 >>> ((8 : Int32) &&& 31)).toInt8.toInt32))), .second, .val (.double (FP.i2d ((p2 >>> ((16 : Int32) &&& 31)).toInt8.toInt32))), .second, .val (.double (FP.i2d ((q >>> ((8 : Int32) &&& 31)).toInt8.toInt32))), .second, .val (.double (FP.i2d ((q >>> ((16 : Int32) &&& 31)).toInt8.toInt32))), .second, .val (.int (1 : Int32)), .val (.ref b35), .val (.ref b45), .val (.ref b55), .val (.ref a), .val (.double (FP.i2d ((q >>> ((8 : Int32) &&& 31)).toInt8.toInt32))), .second, .val (.double (FP.i2d ((p1 >>> ((16 : Int32) &&& 31)).toInt8.toInt32))), .second, .val (.double (FP.i2d ((p2 >>> ((8 : Int32) &&& 31)).toInt8.toInt32))), .second, .val (.double (FP.dadd (FP.dadd (FP.dmul (FP.i2d (p0.toInt8.toInt32)) (FP.i2d ((q >>> ((8 : Int32) &&& 31)).toInt8.toInt32))) (FP.dmul (FP.i2d (p1.toInt8.toInt32)) (FP.i2d ((p1 >>> ((16 : Int32) &&& 31)).toInt8.toInt32)))) (FP.dmul (FP.i2d (p2.toInt8.toInt32)) (FP.i2d ((p2 >>> ((8 : Int32) &&& 31)).toInt8.toInt32))))), .second]) rfl (n := 265) rfl ?_
              refine aload P at_265 rfl rfl (n := 267) rfl ?_
              have ev0 : gv9 0 = (FP.i2d ((q >>> ((8 : Int32) &&& 31)).toInt8.toInt32)) := hv0.trans (if_pos hc202)
              have ev1 : gv9 1 = (FP.i2d ((p1 >>> ((16 : Int32) &&& 31)).toInt8.toInt32)) := hv1.trans (if_neg (Int.not_lt.mpr hc218))
              have ev2 : gv9 2 = (FP.i2d ((p2 >>> ((8 : Int32) &&& 31)).toInt8.toInt32)) := hv2.trans (if_pos hc234)
              refine callV P at_267 (a := a) (argsL := []) (rest := []) (c_obj l Z a0 hw a kc kl ku kv kp kr gc gl9 gu9 gv9 h70 n0 P.low S9 (by rw [gc0]; exact own_Bi _) (by rw [gc1]; exact own_Bi _) (by rw [gc2]; exact own_Bi _) (by rw [ev0]; exact own_Bi _) (by rw [ev1]; exact own_Bi _) (by rw [ev2]; exact own_Bi _)) S9.1 (hw _ (List.mem_of_getElem? (i := 76) rfl)) (hw _ (List.mem_of_getElem? (i := 77) rfl)) (notFace_of_selects (args := #[]) (mvT P.hZ (hw _ (List.mem_of_getElem? (i := 79) rfl)))) (hw _ (List.mem_of_getElem? (i := 79) rfl)) (hw _ (List.mem_of_getElem? (i := 78) rfl)) (hw _ (List.mem_of_getElem? (i := 3) rfl)) (hw _ (List.mem_of_getElem? (i := 80) rfl)) (by decide) pd_4 rfl rfl rfl ⟨by decide, Nat.le_of_ble_eq_true rfl, by decide, by decide⟩ (n := 270) rfl (Ret.on ?_)
              intro T P
              refine dload P at_270 rfl (n := 272) rfl ?_
              refine dcmp P at_272 (v := (0 : Int32)) (by rw [ev0, ev1, ev2, gc0, gc1, gc2]; exact (own_all (own_Bi _) (own_Bi _) (own_Bi _) (own_Bi _) (own_Bi _) (own_Bi _)).2.2) (n := 273) rfl ?_
              refine if0_ne P at_273 (n' := 280) (n := 276) (by decide) rfl (fun hc273 => ?_) (fun hc273 => ?_)
              · -- pc 273 taken
                replace hc273 : ¬ (0 : Int) = (0 : Int) := hc273
                exact absurd hc273 (by decide)
              · -- pc 273 not taken
                replace hc273 : (0 : Int) = (0 : Int) := hc273
                refine iconst P at_276 (x := (1 : Int32)) rfl (n := 277) rfl ?_
                refine goto P at_277 (n := 281) (by decide) ?_
                refine retZ P at_281 (by decide) (by decide) (by decide) ?_
                exact rfl
            · -- pc 234 not taken
              replace hc234 : (0 : Int) ≤ (own_v (FP.i2d (p2.toInt8.toInt32))).toInt := hc234
              refine dload P at_237 rfl (n := 239) rfl ?_
              refine goto P at_239 (n := 244) (by decide) ?_
              refine dstore P at_244 (l' := #[.val (.int p0), .val (.int p1), .val (.int p2), .val (.int q), .val (.double (FP.i2d (p0.toInt8.toInt32))), .second, .val (.double (FP.i2d ((p0 >>> ((8 : Int32) &&& 31)).toInt8.toInt32))), .second, .val (.double (FP.i2d ((p0 >>> ((16 : Int32) &&& 31)).toInt8.toInt32))), .second, .val (.double (FP.i2d (p1.toInt8.toInt32))), .second, .val (.double (FP.i2d ((p1 >>> ((8 : Int32) &&& 31)).toInt8.toInt32))), .second, .val (.double (FP.i2d ((p1 >>> ((16 : Int32) &&& 31)).toInt8.toInt32))), .second, .val (.double (FP.i2d (p2.toInt8.toInt32))), .second, .val (.double (FP.i2d ((p2 >>> ((8 : Int32) &&& 31)).toInt8.toInt32))), .second, .val (.double (FP.i2d ((p2 >>> ((16 : Int32) &&& 31)).toInt8.toInt32))), .second, .val (.double (FP.i2d ((q >>> ((8 : Int32) &&& 31)).toInt8.toInt32))), .second, .val (.double (FP.i2d ((q >>> ((16 : Int32) &&& 31)).toInt8.toInt32))), .second, .val (.int (1 : Int32)), .val (.ref b35), .val (.ref b45), .val (.ref b55), .val (.ref a), .val (.double (FP.i2d ((q >>> ((8 : Int32) &&& 31)).toInt8.toInt32))), .second, .val (.double (FP.i2d ((p1 >>> ((16 : Int32) &&& 31)).toInt8.toInt32))), .second, .val (.double (FP.i2d ((p2 >>> ((16 : Int32) &&& 31)).toInt8.toInt32))), .second, .unset, .unset]) rfl (n := 246) rfl ?_
              refine dload P at_246 rfl (n := 248) rfl ?_
              refine dload P at_248 rfl (n := 250) rfl ?_
              refine dmul P at_250 (own_nm (own_Bi _) (own_Bi _)) (n := 251) rfl ?_
              refine dload P at_251 rfl (n := 253) rfl ?_
              refine dload P at_253 rfl (n := 255) rfl ?_
              refine dmul P at_255 (own_nm (own_Bi _) (own_Bi _)) (n := 256) rfl ?_
              refine dadd P at_256 (own_all (own_Bi _) (own_Bi _) (own_Bi _) (own_Bi _) (own_Bi 0) (own_Bi 0)).2.1.1 (n := 257) rfl ?_
              refine dload P at_257 rfl (n := 259) rfl ?_
              refine dload P at_259 rfl (n := 261) rfl ?_
              refine dmul P at_261 (own_nm (own_Bi _) (own_Bi _)) (n := 262) rfl ?_
              refine dadd P at_262 (own_all (own_Bi _) (own_Bi _) (own_Bi _) (own_Bi _) (own_Bi _) (own_Bi _)).2.1.2 (n := 263) rfl ?_
              refine dstore P at_263 (l' := #[.val (.int p0), .val (.int p1), .val (.int p2), .val (.int q), .val (.double (FP.i2d (p0.toInt8.toInt32))), .second, .val (.double (FP.i2d ((p0 >>> ((8 : Int32) &&& 31)).toInt8.toInt32))), .second, .val (.double (FP.i2d ((p0 >>> ((16 : Int32) &&& 31)).toInt8.toInt32))), .second, .val (.double (FP.i2d (p1.toInt8.toInt32))), .second, .val (.double (FP.i2d ((p1 >>> ((8 : Int32) &&& 31)).toInt8.toInt32))), .second, .val (.double (FP.i2d ((p1 >>> ((16 : Int32) &&& 31)).toInt8.toInt32))), .second, .val (.double (FP.i2d (p2.toInt8.toInt32))), .second, .val (.double (FP.i2d ((p2 >>> ((8 : Int32) &&& 31)).toInt8.toInt32))), .second, .val (.double (FP.i2d ((p2 >>> ((16 : Int32) &&& 31)).toInt8.toInt32))), .second, .val (.double (FP.i2d ((q >>> ((8 : Int32) &&& 31)).toInt8.toInt32))), .second, .val (.double (FP.i2d ((q >>> ((16 : Int32) &&& 31)).toInt8.toInt32))), .second, .val (.int (1 : Int32)), .val (.ref b35), .val (.ref b45), .val (.ref b55), .val (.ref a), .val (.double (FP.i2d ((q >>> ((8 : Int32) &&& 31)).toInt8.toInt32))), .second, .val (.double (FP.i2d ((p1 >>> ((16 : Int32) &&& 31)).toInt8.toInt32))), .second, .val (.double (FP.i2d ((p2 >>> ((16 : Int32) &&& 31)).toInt8.toInt32))), .second, .val (.double (FP.dadd (FP.dadd (FP.dmul (FP.i2d (p0.toInt8.toInt32)) (FP.i2d ((q >>> ((8 : Int32) &&& 31)).toInt8.toInt32))) (FP.dmul (FP.i2d (p1.toInt8.toInt32)) (FP.i2d ((p1 >>> ((16 : Int32) &&& 31)).toInt8.toInt32)))) (FP.dmul (FP.i2d (p2.toInt8.toInt32)) (FP.i2d ((p2 >>> ((16 : Int32) &&& 31)).toInt8.toInt32))))), .second]) rfl (n := 265) rfl ?_
              refine aload P at_265 rfl rfl (n := 267) rfl ?_
              have ev0 : gv9 0 = (FP.i2d ((q >>> ((8 : Int32) &&& 31)).toInt8.toInt32)) := hv0.trans (if_pos hc202)
              have ev1 : gv9 1 = (FP.i2d ((p1 >>> ((16 : Int32) &&& 31)).toInt8.toInt32)) := hv1.trans (if_neg (Int.not_lt.mpr hc218))
              have ev2 : gv9 2 = (FP.i2d ((p2 >>> ((16 : Int32) &&& 31)).toInt8.toInt32)) := hv2.trans (if_neg (Int.not_lt.mpr hc234))
              refine callV P at_267 (a := a) (argsL := []) (rest := []) (c_obj l Z a0 hw a kc kl ku kv kp kr gc gl9 gu9 gv9 h70 n0 P.low S9 (by rw [gc0]; exact own_Bi _) (by rw [gc1]; exact own_Bi _) (by rw [gc2]; exact own_Bi _) (by rw [ev0]; exact own_Bi _) (by rw [ev1]; exact own_Bi _) (by rw [ev2]; exact own_Bi _)) S9.1 (hw _ (List.mem_of_getElem? (i := 76) rfl)) (hw _ (List.mem_of_getElem? (i := 77) rfl)) (notFace_of_selects (args := #[]) (mvT P.hZ (hw _ (List.mem_of_getElem? (i := 79) rfl)))) (hw _ (List.mem_of_getElem? (i := 79) rfl)) (hw _ (List.mem_of_getElem? (i := 78) rfl)) (hw _ (List.mem_of_getElem? (i := 3) rfl)) (hw _ (List.mem_of_getElem? (i := 80) rfl)) (by decide) pd_4 rfl rfl rfl ⟨by decide, Nat.le_of_ble_eq_true rfl, by decide, by decide⟩ (n := 270) rfl (Ret.on ?_)
              intro T P
              refine dload P at_270 rfl (n := 272) rfl ?_
              refine dcmp P at_272 (v := (0 : Int32)) (by rw [ev0, ev1, ev2, gc0, gc1, gc2]; exact (own_all (own_Bi _) (own_Bi _) (own_Bi _) (own_Bi _) (own_Bi _) (own_Bi _)).2.2) (n := 273) rfl ?_
              refine if0_ne P at_273 (n' := 280) (n := 276) (by decide) rfl (fun hc273 => ?_) (fun hc273 => ?_)
              · -- pc 273 taken
                replace hc273 : ¬ (0 : Int) = (0 : Int) := hc273
                exact absurd hc273 (by decide)
              · -- pc 273 not taken
                replace hc273 : (0 : Int) = (0 : Int) := hc273
                refine iconst P at_276 (x := (1 : Int32)) rfl (n := 277) rfl ?_
                refine goto P at_277 (n := 281) (by decide) ?_
                refine retZ P at_281 (by decide) (by decide) (by decide) ?_
                exact rfl
        · -- pc 202 not taken
          replace hc202 : (0 : Int) ≤ (own_v (FP.i2d (p0.toInt8.toInt32))).toInt := hc202
          refine dload P at_205 rfl (n := 207) rfl ?_
          refine goto P at_207 (n := 212) (by decide) ?_
          refine dstore P at_212 (l' := #[.val (.int p0), .val (.int p1), .val (.int p2), .val (.int q), .val (.double (FP.i2d (p0.toInt8.toInt32))), .second, .val (.double (FP.i2d ((p0 >>> ((8 : Int32) &&& 31)).toInt8.toInt32))), .second, .val (.double (FP.i2d ((p0 >>> ((16 : Int32) &&& 31)).toInt8.toInt32))), .second, .val (.double (FP.i2d (p1.toInt8.toInt32))), .second, .val (.double (FP.i2d ((p1 >>> ((8 : Int32) &&& 31)).toInt8.toInt32))), .second, .val (.double (FP.i2d ((p1 >>> ((16 : Int32) &&& 31)).toInt8.toInt32))), .second, .val (.double (FP.i2d (p2.toInt8.toInt32))), .second, .val (.double (FP.i2d ((p2 >>> ((8 : Int32) &&& 31)).toInt8.toInt32))), .second, .val (.double (FP.i2d ((p2 >>> ((16 : Int32) &&& 31)).toInt8.toInt32))), .second, .val (.double (FP.i2d ((q >>> ((8 : Int32) &&& 31)).toInt8.toInt32))), .second, .val (.double (FP.i2d ((q >>> ((16 : Int32) &&& 31)).toInt8.toInt32))), .second, .val (.int (1 : Int32)), .val (.ref b35), .val (.ref b45), .val (.ref b55), .val (.ref a), .val (.double (FP.i2d ((q >>> ((16 : Int32) &&& 31)).toInt8.toInt32))), .second, .unset, .unset, .unset, .unset, .unset, .unset]) rfl (n := 214) rfl ?_
          refine dload P at_214 rfl (n := 216) rfl ?_
          refine dconst0 P at_216 (n := 217) rfl ?_
          refine dcmp P at_217 (v := (own_v (FP.i2d (p1.toInt8.toInt32)))) rfl (n := 218) rfl ?_
          refine if0_lt P at_218 (n' := 226) (n := 221) (by decide) rfl (fun hc218 => ?_) (fun hc218 => ?_)
          · -- pc 218 taken
            replace hc218 : (own_v (FP.i2d (p1.toInt8.toInt32))).toInt < (0 : Int) := hc218
            refine dload P at_226 rfl (n := 228) rfl ?_
            refine dstore P at_228 (l' := #[.val (.int p0), .val (.int p1), .val (.int p2), .val (.int q), .val (.double (FP.i2d (p0.toInt8.toInt32))), .second, .val (.double (FP.i2d ((p0 >>> ((8 : Int32) &&& 31)).toInt8.toInt32))), .second, .val (.double (FP.i2d ((p0 >>> ((16 : Int32) &&& 31)).toInt8.toInt32))), .second, .val (.double (FP.i2d (p1.toInt8.toInt32))), .second, .val (.double (FP.i2d ((p1 >>> ((8 : Int32) &&& 31)).toInt8.toInt32))), .second, .val (.double (FP.i2d ((p1 >>> ((16 : Int32) &&& 31)).toInt8.toInt32))), .second, .val (.double (FP.i2d (p2.toInt8.toInt32))), .second, .val (.double (FP.i2d ((p2 >>> ((8 : Int32) &&& 31)).toInt8.toInt32))), .second, .val (.double (FP.i2d ((p2 >>> ((16 : Int32) &&& 31)).toInt8.toInt32))), .second, .val (.double (FP.i2d ((q >>> ((8 : Int32) &&& 31)).toInt8.toInt32))), .second, .val (.double (FP.i2d ((q >>> ((16 : Int32) &&& 31)).toInt8.toInt32))), .second, .val (.int (1 : Int32)), .val (.ref b35), .val (.ref b45), .val (.ref b55), .val (.ref a), .val (.double (FP.i2d ((q >>> ((16 : Int32) &&& 31)).toInt8.toInt32))), .second, .val (.double (FP.i2d ((p1 >>> ((8 : Int32) &&& 31)).toInt8.toInt32))), .second, .unset, .unset, .unset, .unset]) rfl (n := 230) rfl ?_
            refine dload P at_230 rfl (n := 232) rfl ?_
            refine dconst0 P at_232 (n := 233) rfl ?_
            refine dcmp P at_233 (v := (own_v (FP.i2d (p2.toInt8.toInt32)))) rfl (n := 234) rfl ?_
            refine if0_lt P at_234 (n' := 242) (n := 237) (by decide) rfl (fun hc234 => ?_) (fun hc234 => ?_)
            · -- pc 234 taken
              replace hc234 : (own_v (FP.i2d (p2.toInt8.toInt32))).toInt < (0 : Int) := hc234
              refine dload P at_242 rfl (n := 244) rfl ?_
              refine dstore P at_244 (l' := #[.val (.int p0), .val (.int p1), .val (.int p2), .val (.int q), .val (.double (FP.i2d (p0.toInt8.toInt32))), .second, .val (.double (FP.i2d ((p0 >>> ((8 : Int32) &&& 31)).toInt8.toInt32))), .second, .val (.double (FP.i2d ((p0 >>> ((16 : Int32) &&& 31)).toInt8.toInt32))), .second, .val (.double (FP.i2d (p1.toInt8.toInt32))), .second, .val (.double (FP.i2d ((p1 >>> ((8 : Int32) &&& 31)).toInt8.toInt32))), .second, .val (.double (FP.i2d ((p1 >>> ((16 : Int32) &&& 31)).toInt8.toInt32))), .second, .val (.double (FP.i2d (p2.toInt8.toInt32))), .second, .val (.double (FP.i2d ((p2 >>> ((8 : Int32) &&& 31)).toInt8.toInt32))), .second, .val (.double (FP.i2d ((p2 >>> ((16 : Int32) &&& 31)).toInt8.toInt32))), .second, .val (.double (FP.i2d ((q >>> ((8 : Int32) &&& 31)).toInt8.toInt32))), .second, .val (.double (FP.i2d ((q >>> ((16 : Int32) &&& 31)).toInt8.toInt32))), .second, .val (.int (1 : Int32)), .val (.ref b35), .val (.ref b45), .val (.ref b55), .val (.ref a), .val (.double (FP.i2d ((q >>> ((16 : Int32) &&& 31)).toInt8.toInt32))), .second, .val (.double (FP.i2d ((p1 >>> ((8 : Int32) &&& 31)).toInt8.toInt32))), .second, .val (.double (FP.i2d ((p2 >>> ((8 : Int32) &&& 31)).toInt8.toInt32))), .second, .unset, .unset]) rfl (n := 246) rfl ?_
              refine dload P at_246 rfl (n := 248) rfl ?_
              refine dload P at_248 rfl (n := 250) rfl ?_
              refine dmul P at_250 (own_nm (own_Bi _) (own_Bi _)) (n := 251) rfl ?_
              refine dload P at_251 rfl (n := 253) rfl ?_
              refine dload P at_253 rfl (n := 255) rfl ?_
              refine dmul P at_255 (own_nm (own_Bi _) (own_Bi _)) (n := 256) rfl ?_
              refine dadd P at_256 (own_all (own_Bi _) (own_Bi _) (own_Bi _) (own_Bi _) (own_Bi 0) (own_Bi 0)).2.1.1 (n := 257) rfl ?_
              refine dload P at_257 rfl (n := 259) rfl ?_
              refine dload P at_259 rfl (n := 261) rfl ?_
              refine dmul P at_261 (own_nm (own_Bi _) (own_Bi _)) (n := 262) rfl ?_
              refine dadd P at_262 (own_all (own_Bi _) (own_Bi _) (own_Bi _) (own_Bi _) (own_Bi _) (own_Bi _)).2.1.2 (n := 263) rfl ?_
              refine dstore P at_263 (l' := #[.val (.int p0), .val (.int p1), .val (.int p2), .val (.int q), .val (.double (FP.i2d (p0.toInt8.toInt32))), .second, .val (.double (FP.i2d ((p0 >>> ((8 : Int32) &&& 31)).toInt8.toInt32))), .second, .val (.double (FP.i2d ((p0 >>> ((16 : Int32) &&& 31)).toInt8.toInt32))), .second, .val (.double (FP.i2d (p1.toInt8.toInt32))), .second, .val (.double (FP.i2d ((p1 >>> ((8 : Int32) &&& 31)).toInt8.toInt32))), .second, .val (.double (FP.i2d ((p1 >>> ((16 : Int32) &&& 31)).toInt8.toInt32))), .second, .val (.double (FP.i2d (p2.toInt8.toInt32))), .second, .val (.double (FP.i2d ((p2 >>> ((8 : Int32) &&& 31)).toInt8.toInt32))), .second, .val (.double (FP.i2d ((p2 >>> ((16 : Int32) &&& 31)).toInt8.toInt32))), .second, .val (.double (FP.i2d ((q >>> ((8 : Int32) &&& 31)).toInt8.toInt32))), .second, .val (.double (FP.i2d ((q >>> ((16 : Int32) &&& 31)).toInt8.toInt32))), .second, .val (.int (1 : Int32)), .val (.ref b35), .val (.ref b45), .val (.ref b55), .val (.ref a), .val (.double (FP.i2d ((q >>> ((16 : Int32) &&& 31)).toInt8.toInt32))), .second, .val (.double (FP.i2d ((p1 >>> ((8 : Int32) &&& 31)).toInt8.toInt32))), .second, .val (.double (FP.i2d ((p2 >>> ((8 : Int32) &&& 31)).toInt8.toInt32))), .second, .val (.double (FP.dadd (FP.dadd (FP.dmul (FP.i2d (p0.toInt8.toInt32)) (FP.i2d ((q >>> ((16 : Int32) &&& 31)).toInt8.toInt32))) (FP.dmul (FP.i2d (p1.toInt8.toInt32)) (FP.i2d ((p1 >>> ((8 : Int32) &&& 31)).toInt8.toInt32)))) (FP.dmul (FP.i2d (p2.toInt8.toInt32)) (FP.i2d ((p2 >>> ((8 : Int32) &&& 31)).toInt8.toInt32))))), .second]) rfl (n := 265) rfl ?_
              refine aload P at_265 rfl rfl (n := 267) rfl ?_
              have ev0 : gv9 0 = (FP.i2d ((q >>> ((16 : Int32) &&& 31)).toInt8.toInt32)) := hv0.trans (if_neg (Int.not_lt.mpr hc202))
              have ev1 : gv9 1 = (FP.i2d ((p1 >>> ((8 : Int32) &&& 31)).toInt8.toInt32)) := hv1.trans (if_pos hc218)
              have ev2 : gv9 2 = (FP.i2d ((p2 >>> ((8 : Int32) &&& 31)).toInt8.toInt32)) := hv2.trans (if_pos hc234)
              refine callV P at_267 (a := a) (argsL := []) (rest := []) (c_obj l Z a0 hw a kc kl ku kv kp kr gc gl9 gu9 gv9 h70 n0 P.low S9 (by rw [gc0]; exact own_Bi _) (by rw [gc1]; exact own_Bi _) (by rw [gc2]; exact own_Bi _) (by rw [ev0]; exact own_Bi _) (by rw [ev1]; exact own_Bi _) (by rw [ev2]; exact own_Bi _)) S9.1 (hw _ (List.mem_of_getElem? (i := 76) rfl)) (hw _ (List.mem_of_getElem? (i := 77) rfl)) (notFace_of_selects (args := #[]) (mvT P.hZ (hw _ (List.mem_of_getElem? (i := 79) rfl)))) (hw _ (List.mem_of_getElem? (i := 79) rfl)) (hw _ (List.mem_of_getElem? (i := 78) rfl)) (hw _ (List.mem_of_getElem? (i := 3) rfl)) (hw _ (List.mem_of_getElem? (i := 80) rfl)) (by decide) pd_4 rfl rfl rfl ⟨by decide, Nat.le_of_ble_eq_true rfl, by decide, by decide⟩ (n := 270) rfl (Ret.on ?_)
              intro T P
              refine dload P at_270 rfl (n := 272) rfl ?_
              refine dcmp P at_272 (v := (0 : Int32)) (by rw [ev0, ev1, ev2, gc0, gc1, gc2]; exact (own_all (own_Bi _) (own_Bi _) (own_Bi _) (own_Bi _) (own_Bi _) (own_Bi _)).2.2) (n := 273) rfl ?_
              refine if0_ne P at_273 (n' := 280) (n := 276) (by decide) rfl (fun hc273 => ?_) (fun hc273 => ?_)
              · -- pc 273 taken
                replace hc273 : ¬ (0 : Int) = (0 : Int) := hc273
                exact absurd hc273 (by decide)
              · -- pc 273 not taken
                replace hc273 : (0 : Int) = (0 : Int) := hc273
                refine iconst P at_276 (x := (1 : Int32)) rfl (n := 277) rfl ?_
                refine goto P at_277 (n := 281) (by decide) ?_
                refine retZ P at_281 (by decide) (by decide) (by decide) ?_
                exact rfl
            · -- pc 234 not taken
              replace hc234 : (0 : Int) ≤ (own_v (FP.i2d (p2.toInt8.toInt32))).toInt := hc234
              refine dload P at_237 rfl (n := 239) rfl ?_
              refine goto P at_239 (n := 244) (by decide) ?_
              refine dstore P at_244 (l' := #[.val (.int p0), .val (.int p1), .val (.int p2), .val (.int q), .val (.double (FP.i2d (p0.toInt8.toInt32))), .second, .val (.double (FP.i2d ((p0 >>> ((8 : Int32) &&& 31)).toInt8.toInt32))), .second, .val (.double (FP.i2d ((p0 >>> ((16 : Int32) &&& 31)).toInt8.toInt32))), .second, .val (.double (FP.i2d (p1.toInt8.toInt32))), .second, .val (.double (FP.i2d ((p1 >>> ((8 : Int32) &&& 31)).toInt8.toInt32))), .second, .val (.double (FP.i2d ((p1 >>> ((16 : Int32) &&& 31)).toInt8.toInt32))), .second, .val (.double (FP.i2d (p2.toInt8.toInt32))), .second, .val (.double (FP.i2d ((p2 >>> ((8 : Int32) &&& 31)).toInt8.toInt32))), .second, .val (.double (FP.i2d ((p2 >>> ((16 : Int32) &&& 31)).toInt8.toInt32))), .second, .val (.double (FP.i2d ((q >>> ((8 : Int32) &&& 31)).toInt8.toInt32))), .second, .val (.double (FP.i2d ((q >>> ((16 : Int32) &&& 31)).toInt8.toInt32))), .second, .val (.int (1 : Int32)), .val (.ref b35), .val (.ref b45), .val (.ref b55), .val (.ref a), .val (.double (FP.i2d ((q >>> ((16 : Int32) &&& 31)).toInt8.toInt32))), .second, .val (.double (FP.i2d ((p1 >>> ((8 : Int32) &&& 31)).toInt8.toInt32))), .second, .val (.double (FP.i2d ((p2 >>> ((16 : Int32) &&& 31)).toInt8.toInt32))), .second, .unset, .unset]) rfl (n := 246) rfl ?_
              refine dload P at_246 rfl (n := 248) rfl ?_
              refine dload P at_248 rfl (n := 250) rfl ?_
              refine dmul P at_250 (own_nm (own_Bi _) (own_Bi _)) (n := 251) rfl ?_
              refine dload P at_251 rfl (n := 253) rfl ?_
              refine dload P at_253 rfl (n := 255) rfl ?_
              refine dmul P at_255 (own_nm (own_Bi _) (own_Bi _)) (n := 256) rfl ?_
              refine dadd P at_256 (own_all (own_Bi _) (own_Bi _) (own_Bi _) (own_Bi _) (own_Bi 0) (own_Bi 0)).2.1.1 (n := 257) rfl ?_
              refine dload P at_257 rfl (n := 259) rfl ?_
              refine dload P at_259 rfl (n := 261) rfl ?_
              refine dmul P at_261 (own_nm (own_Bi _) (own_Bi _)) (n := 262) rfl ?_
              refine dadd P at_262 (own_all (own_Bi _) (own_Bi _) (own_Bi _) (own_Bi _) (own_Bi _) (own_Bi _)).2.1.2 (n := 263) rfl ?_
              refine dstore P at_263 (l' := #[.val (.int p0), .val (.int p1), .val (.int p2), .val (.int q), .val (.double (FP.i2d (p0.toInt8.toInt32))), .second, .val (.double (FP.i2d ((p0 >>> ((8 : Int32) &&& 31)).toInt8.toInt32))), .second, .val (.double (FP.i2d ((p0 >>> ((16 : Int32) &&& 31)).toInt8.toInt32))), .second, .val (.double (FP.i2d (p1.toInt8.toInt32))), .second, .val (.double (FP.i2d ((p1 >>> ((8 : Int32) &&& 31)).toInt8.toInt32))), .second, .val (.double (FP.i2d ((p1 >>> ((16 : Int32) &&& 31)).toInt8.toInt32))), .second, .val (.double (FP.i2d (p2.toInt8.toInt32))), .second, .val (.double (FP.i2d ((p2 >>> ((8 : Int32) &&& 31)).toInt8.toInt32))), .second, .val (.double (FP.i2d ((p2 >>> ((16 : Int32) &&& 31)).toInt8.toInt32))), .second, .val (.double (FP.i2d ((q >>> ((8 : Int32) &&& 31)).toInt8.toInt32))), .second, .val (.double (FP.i2d ((q >>> ((16 : Int32) &&& 31)).toInt8.toInt32))), .second, .val (.int (1 : Int32)), .val (.ref b35), .val (.ref b45), .val (.ref b55), .val (.ref a), .val (.double (FP.i2d ((q >>> ((16 : Int32) &&& 31)).toInt8.toInt32))), .second, .val (.double (FP.i2d ((p1 >>> ((8 : Int32) &&& 31)).toInt8.toInt32))), .second, .val (.double (FP.i2d ((p2 >>> ((16 : Int32) &&& 31)).toInt8.toInt32))), .second, .val (.double (FP.dadd (FP.dadd (FP.dmul (FP.i2d (p0.toInt8.toInt32)) (FP.i2d ((q >>> ((16 : Int32) &&& 31)).toInt8.toInt32))) (FP.dmul (FP.i2d (p1.toInt8.toInt32)) (FP.i2d ((p1 >>> ((8 : Int32) &&& 31)).toInt8.toInt32)))) (FP.dmul (FP.i2d (p2.toInt8.toInt32)) (FP.i2d ((p2 >>> ((16 : Int32) &&& 31)).toInt8.toInt32))))), .second]) rfl (n := 265) rfl ?_
              refine aload P at_265 rfl rfl (n := 267) rfl ?_
              have ev0 : gv9 0 = (FP.i2d ((q >>> ((16 : Int32) &&& 31)).toInt8.toInt32)) := hv0.trans (if_neg (Int.not_lt.mpr hc202))
              have ev1 : gv9 1 = (FP.i2d ((p1 >>> ((8 : Int32) &&& 31)).toInt8.toInt32)) := hv1.trans (if_pos hc218)
              have ev2 : gv9 2 = (FP.i2d ((p2 >>> ((16 : Int32) &&& 31)).toInt8.toInt32)) := hv2.trans (if_neg (Int.not_lt.mpr hc234))
              refine callV P at_267 (a := a) (argsL := []) (rest := []) (c_obj l Z a0 hw a kc kl ku kv kp kr gc gl9 gu9 gv9 h70 n0 P.low S9 (by rw [gc0]; exact own_Bi _) (by rw [gc1]; exact own_Bi _) (by rw [gc2]; exact own_Bi _) (by rw [ev0]; exact own_Bi _) (by rw [ev1]; exact own_Bi _) (by rw [ev2]; exact own_Bi _)) S9.1 (hw _ (List.mem_of_getElem? (i := 76) rfl)) (hw _ (List.mem_of_getElem? (i := 77) rfl)) (notFace_of_selects (args := #[]) (mvT P.hZ (hw _ (List.mem_of_getElem? (i := 79) rfl)))) (hw _ (List.mem_of_getElem? (i := 79) rfl)) (hw _ (List.mem_of_getElem? (i := 78) rfl)) (hw _ (List.mem_of_getElem? (i := 3) rfl)) (hw _ (List.mem_of_getElem? (i := 80) rfl)) (by decide) pd_4 rfl rfl rfl ⟨by decide, Nat.le_of_ble_eq_true rfl, by decide, by decide⟩ (n := 270) rfl (Ret.on ?_)
              intro T P
              refine dload P at_270 rfl (n := 272) rfl ?_
              refine dcmp P at_272 (v := (0 : Int32)) (by rw [ev0, ev1, ev2, gc0, gc1, gc2]; exact (own_all (own_Bi _) (own_Bi _) (own_Bi _) (own_Bi _) (own_Bi _) (own_Bi _)).2.2) (n := 273) rfl ?_
              refine if0_ne P at_273 (n' := 280) (n := 276) (by decide) rfl (fun hc273 => ?_) (fun hc273 => ?_)
              · -- pc 273 taken
                replace hc273 : ¬ (0 : Int) = (0 : Int) := hc273
                exact absurd hc273 (by decide)
              · -- pc 273 not taken
                replace hc273 : (0 : Int) = (0 : Int) := hc273
                refine iconst P at_276 (x := (1 : Int32)) rfl (n := 277) rfl ?_
                refine goto P at_277 (n := 281) (by decide) ?_
                refine retZ P at_281 (by decide) (by decide) (by decide) ?_
                exact rfl
          · -- pc 218 not taken
            replace hc218 : (0 : Int) ≤ (own_v (FP.i2d (p1.toInt8.toInt32))).toInt := hc218
            refine dload P at_221 rfl (n := 223) rfl ?_
            refine goto P at_223 (n := 228) (by decide) ?_
            refine dstore P at_228 (l' := #[.val (.int p0), .val (.int p1), .val (.int p2), .val (.int q), .val (.double (FP.i2d (p0.toInt8.toInt32))), .second, .val (.double (FP.i2d ((p0 >>> ((8 : Int32) &&& 31)).toInt8.toInt32))), .second, .val (.double (FP.i2d ((p0 >>> ((16 : Int32) &&& 31)).toInt8.toInt32))), .second, .val (.double (FP.i2d (p1.toInt8.toInt32))), .second, .val (.double (FP.i2d ((p1 >>> ((8 : Int32) &&& 31)).toInt8.toInt32))), .second, .val (.double (FP.i2d ((p1 >>> ((16 : Int32) &&& 31)).toInt8.toInt32))), .second, .val (.double (FP.i2d (p2.toInt8.toInt32))), .second, .val (.double (FP.i2d ((p2 >>> ((8 : Int32) &&& 31)).toInt8.toInt32))), .second, .val (.double (FP.i2d ((p2 >>> ((16 : Int32) &&& 31)).toInt8.toInt32))), .second, .val (.double (FP.i2d ((q >>> ((8 : Int32) &&& 31)).toInt8.toInt32))), .second, .val (.double (FP.i2d ((q >>> ((16 : Int32) &&& 31)).toInt8.toInt32))), .second, .val (.int (1 : Int32)), .val (.ref b35), .val (.ref b45), .val (.ref b55), .val (.ref a), .val (.double (FP.i2d ((q >>> ((16 : Int32) &&& 31)).toInt8.toInt32))), .second, .val (.double (FP.i2d ((p1 >>> ((16 : Int32) &&& 31)).toInt8.toInt32))), .second, .unset, .unset, .unset, .unset]) rfl (n := 230) rfl ?_
            refine dload P at_230 rfl (n := 232) rfl ?_
            refine dconst0 P at_232 (n := 233) rfl ?_
            refine dcmp P at_233 (v := (own_v (FP.i2d (p2.toInt8.toInt32)))) rfl (n := 234) rfl ?_
            refine if0_lt P at_234 (n' := 242) (n := 237) (by decide) rfl (fun hc234 => ?_) (fun hc234 => ?_)
            · -- pc 234 taken
              replace hc234 : (own_v (FP.i2d (p2.toInt8.toInt32))).toInt < (0 : Int) := hc234
              refine dload P at_242 rfl (n := 244) rfl ?_
              refine dstore P at_244 (l' := #[.val (.int p0), .val (.int p1), .val (.int p2), .val (.int q), .val (.double (FP.i2d (p0.toInt8.toInt32))), .second, .val (.double (FP.i2d ((p0 >>> ((8 : Int32) &&& 31)).toInt8.toInt32))), .second, .val (.double (FP.i2d ((p0 >>> ((16 : Int32) &&& 31)).toInt8.toInt32))), .second, .val (.double (FP.i2d (p1.toInt8.toInt32))), .second, .val (.double (FP.i2d ((p1 >>> ((8 : Int32) &&& 31)).toInt8.toInt32))), .second, .val (.double (FP.i2d ((p1 >>> ((16 : Int32) &&& 31)).toInt8.toInt32))), .second, .val (.double (FP.i2d (p2.toInt8.toInt32))), .second, .val (.double (FP.i2d ((p2 >>> ((8 : Int32) &&& 31)).toInt8.toInt32))), .second, .val (.double (FP.i2d ((p2 >>> ((16 : Int32) &&& 31)).toInt8.toInt32))), .second, .val (.double (FP.i2d ((q >>> ((8 : Int32) &&& 31)).toInt8.toInt32))), .second, .val (.double (FP.i2d ((q >>> ((16 : Int32) &&& 31)).toInt8.toInt32))), .second, .val (.int (1 : Int32)), .val (.ref b35), .val (.ref b45), .val (.ref b55), .val (.ref a), .val (.double (FP.i2d ((q >>> ((16 : Int32) &&& 31)).toInt8.toInt32))), .second, .val (.double (FP.i2d ((p1 >>> ((16 : Int32) &&& 31)).toInt8.toInt32))), .second, .val (.double (FP.i2d ((p2 >>> ((8 : Int32) &&& 31)).toInt8.toInt32))), .second, .unset, .unset]) rfl (n := 246) rfl ?_
              refine dload P at_246 rfl (n := 248) rfl ?_
              refine dload P at_248 rfl (n := 250) rfl ?_
              refine dmul P at_250 (own_nm (own_Bi _) (own_Bi _)) (n := 251) rfl ?_
              refine dload P at_251 rfl (n := 253) rfl ?_
              refine dload P at_253 rfl (n := 255) rfl ?_
              refine dmul P at_255 (own_nm (own_Bi _) (own_Bi _)) (n := 256) rfl ?_
              refine dadd P at_256 (own_all (own_Bi _) (own_Bi _) (own_Bi _) (own_Bi _) (own_Bi 0) (own_Bi 0)).2.1.1 (n := 257) rfl ?_
              refine dload P at_257 rfl (n := 259) rfl ?_
              refine dload P at_259 rfl (n := 261) rfl ?_
              refine dmul P at_261 (own_nm (own_Bi _) (own_Bi _)) (n := 262) rfl ?_
              refine dadd P at_262 (own_all (own_Bi _) (own_Bi _) (own_Bi _) (own_Bi _) (own_Bi _) (own_Bi _)).2.1.2 (n := 263) rfl ?_
              refine dstore P at_263 (l' := #[.val (.int p0), .val (.int p1), .val (.int p2), .val (.int q), .val (.double (FP.i2d (p0.toInt8.toInt32))), .second, .val (.double (FP.i2d ((p0 >>> ((8 : Int32) &&& 31)).toInt8.toInt32))), .second, .val (.double (FP.i2d ((p0 >>> ((16 : Int32) &&& 31)).toInt8.toInt32))), .second, .val (.double (FP.i2d (p1.toInt8.toInt32))), .second, .val (.double (FP.i2d ((p1 >>> ((8 : Int32) &&& 31)).toInt8.toInt32))), .second, .val (.double (FP.i2d ((p1 >>> ((16 : Int32) &&& 31)).toInt8.toInt32))), .second, .val (.double (FP.i2d (p2.toInt8.toInt32))), .second, .val (.double (FP.i2d ((p2 >>> ((8 : Int32) &&& 31)).toInt8.toInt32))), .second, .val (.double (FP.i2d ((p2 >>> ((16 : Int32) &&& 31)).toInt8.toInt32))), .second, .val (.double (FP.i2d ((q >>> ((8 : Int32) &&& 31)).toInt8.toInt32))), .second, .val (.double (FP.i2d ((q >>> ((16 : Int32) &&& 31)).toInt8.toInt32))), .second, .val (.int (1 : Int32)), .val (.ref b35), .val (.ref b45), .val (.ref b55), .val (.ref a), .val (.double (FP.i2d ((q >>> ((16 : Int32) &&& 31)).toInt8.toInt32))), .second, .val (.double (FP.i2d ((p1 >>> ((16 : Int32) &&& 31)).toInt8.toInt32))), .second, .val (.double (FP.i2d ((p2 >>> ((8 : Int32) &&& 31)).toInt8.toInt32))), .second, .val (.double (FP.dadd (FP.dadd (FP.dmul (FP.i2d (p0.toInt8.toInt32)) (FP.i2d ((q >>> ((16 : Int32) &&& 31)).toInt8.toInt32))) (FP.dmul (FP.i2d (p1.toInt8.toInt32)) (FP.i2d ((p1 >>> ((16 : Int32) &&& 31)).toInt8.toInt32)))) (FP.dmul (FP.i2d (p2.toInt8.toInt32)) (FP.i2d ((p2 >>> ((8 : Int32) &&& 31)).toInt8.toInt32))))), .second]) rfl (n := 265) rfl ?_
              refine aload P at_265 rfl rfl (n := 267) rfl ?_
              have ev0 : gv9 0 = (FP.i2d ((q >>> ((16 : Int32) &&& 31)).toInt8.toInt32)) := hv0.trans (if_neg (Int.not_lt.mpr hc202))
              have ev1 : gv9 1 = (FP.i2d ((p1 >>> ((16 : Int32) &&& 31)).toInt8.toInt32)) := hv1.trans (if_neg (Int.not_lt.mpr hc218))
              have ev2 : gv9 2 = (FP.i2d ((p2 >>> ((8 : Int32) &&& 31)).toInt8.toInt32)) := hv2.trans (if_pos hc234)
              refine callV P at_267 (a := a) (argsL := []) (rest := []) (c_obj l Z a0 hw a kc kl ku kv kp kr gc gl9 gu9 gv9 h70 n0 P.low S9 (by rw [gc0]; exact own_Bi _) (by rw [gc1]; exact own_Bi _) (by rw [gc2]; exact own_Bi _) (by rw [ev0]; exact own_Bi _) (by rw [ev1]; exact own_Bi _) (by rw [ev2]; exact own_Bi _)) S9.1 (hw _ (List.mem_of_getElem? (i := 76) rfl)) (hw _ (List.mem_of_getElem? (i := 77) rfl)) (notFace_of_selects (args := #[]) (mvT P.hZ (hw _ (List.mem_of_getElem? (i := 79) rfl)))) (hw _ (List.mem_of_getElem? (i := 79) rfl)) (hw _ (List.mem_of_getElem? (i := 78) rfl)) (hw _ (List.mem_of_getElem? (i := 3) rfl)) (hw _ (List.mem_of_getElem? (i := 80) rfl)) (by decide) pd_4 rfl rfl rfl ⟨by decide, Nat.le_of_ble_eq_true rfl, by decide, by decide⟩ (n := 270) rfl (Ret.on ?_)
              intro T P
              refine dload P at_270 rfl (n := 272) rfl ?_
              refine dcmp P at_272 (v := (0 : Int32)) (by rw [ev0, ev1, ev2, gc0, gc1, gc2]; exact (own_all (own_Bi _) (own_Bi _) (own_Bi _) (own_Bi _) (own_Bi _) (own_Bi _)).2.2) (n := 273) rfl ?_
              refine if0_ne P at_273 (n' := 280) (n := 276) (by decide) rfl (fun hc273 => ?_) (fun hc273 => ?_)
              · -- pc 273 taken
                replace hc273 : ¬ (0 : Int) = (0 : Int) := hc273
                exact absurd hc273 (by decide)
              · -- pc 273 not taken
                replace hc273 : (0 : Int) = (0 : Int) := hc273
                refine iconst P at_276 (x := (1 : Int32)) rfl (n := 277) rfl ?_
                refine goto P at_277 (n := 281) (by decide) ?_
                refine retZ P at_281 (by decide) (by decide) (by decide) ?_
                exact rfl
            · -- pc 234 not taken
              replace hc234 : (0 : Int) ≤ (own_v (FP.i2d (p2.toInt8.toInt32))).toInt := hc234
              refine dload P at_237 rfl (n := 239) rfl ?_
              refine goto P at_239 (n := 244) (by decide) ?_
              refine dstore P at_244 (l' := #[.val (.int p0), .val (.int p1), .val (.int p2), .val (.int q), .val (.double (FP.i2d (p0.toInt8.toInt32))), .second, .val (.double (FP.i2d ((p0 >>> ((8 : Int32) &&& 31)).toInt8.toInt32))), .second, .val (.double (FP.i2d ((p0 >>> ((16 : Int32) &&& 31)).toInt8.toInt32))), .second, .val (.double (FP.i2d (p1.toInt8.toInt32))), .second, .val (.double (FP.i2d ((p1 >>> ((8 : Int32) &&& 31)).toInt8.toInt32))), .second, .val (.double (FP.i2d ((p1 >>> ((16 : Int32) &&& 31)).toInt8.toInt32))), .second, .val (.double (FP.i2d (p2.toInt8.toInt32))), .second, .val (.double (FP.i2d ((p2 >>> ((8 : Int32) &&& 31)).toInt8.toInt32))), .second, .val (.double (FP.i2d ((p2 >>> ((16 : Int32) &&& 31)).toInt8.toInt32))), .second, .val (.double (FP.i2d ((q >>> ((8 : Int32) &&& 31)).toInt8.toInt32))), .second, .val (.double (FP.i2d ((q >>> ((16 : Int32) &&& 31)).toInt8.toInt32))), .second, .val (.int (1 : Int32)), .val (.ref b35), .val (.ref b45), .val (.ref b55), .val (.ref a), .val (.double (FP.i2d ((q >>> ((16 : Int32) &&& 31)).toInt8.toInt32))), .second, .val (.double (FP.i2d ((p1 >>> ((16 : Int32) &&& 31)).toInt8.toInt32))), .second, .val (.double (FP.i2d ((p2 >>> ((16 : Int32) &&& 31)).toInt8.toInt32))), .second, .unset, .unset]) rfl (n := 246) rfl ?_
              refine dload P at_246 rfl (n := 248) rfl ?_
              refine dload P at_248 rfl (n := 250) rfl ?_
              refine dmul P at_250 (own_nm (own_Bi _) (own_Bi _)) (n := 251) rfl ?_
              refine dload P at_251 rfl (n := 253) rfl ?_
              refine dload P at_253 rfl (n := 255) rfl ?_
              refine dmul P at_255 (own_nm (own_Bi _) (own_Bi _)) (n := 256) rfl ?_
              refine dadd P at_256 (own_all (own_Bi _) (own_Bi _) (own_Bi _) (own_Bi _) (own_Bi 0) (own_Bi 0)).2.1.1 (n := 257) rfl ?_
              refine dload P at_257 rfl (n := 259) rfl ?_
              refine dload P at_259 rfl (n := 261) rfl ?_
              refine dmul P at_261 (own_nm (own_Bi _) (own_Bi _)) (n := 262) rfl ?_
              refine dadd P at_262 (own_all (own_Bi _) (own_Bi _) (own_Bi _) (own_Bi _) (own_Bi _) (own_Bi _)).2.1.2 (n := 263) rfl ?_
              refine dstore P at_263 (l' := #[.val (.int p0), .val (.int p1), .val (.int p2), .val (.int q), .val (.double (FP.i2d (p0.toInt8.toInt32))), .second, .val (.double (FP.i2d ((p0 >>> ((8 : Int32) &&& 31)).toInt8.toInt32))), .second, .val (.double (FP.i2d ((p0 >>> ((16 : Int32) &&& 31)).toInt8.toInt32))), .second, .val (.double (FP.i2d (p1.toInt8.toInt32))), .second, .val (.double (FP.i2d ((p1 >>> ((8 : Int32) &&& 31)).toInt8.toInt32))), .second, .val (.double (FP.i2d ((p1 >>> ((16 : Int32) &&& 31)).toInt8.toInt32))), .second, .val (.double (FP.i2d (p2.toInt8.toInt32))), .second, .val (.double (FP.i2d ((p2 >>> ((8 : Int32) &&& 31)).toInt8.toInt32))), .second, .val (.double (FP.i2d ((p2 >>> ((16 : Int32) &&& 31)).toInt8.toInt32))), .second, .val (.double (FP.i2d ((q >>> ((8 : Int32) &&& 31)).toInt8.toInt32))), .second, .val (.double (FP.i2d ((q >>> ((16 : Int32) &&& 31)).toInt8.toInt32))), .second, .val (.int (1 : Int32)), .val (.ref b35), .val (.ref b45), .val (.ref b55), .val (.ref a), .val (.double (FP.i2d ((q >>> ((16 : Int32) &&& 31)).toInt8.toInt32))), .second, .val (.double (FP.i2d ((p1 >>> ((16 : Int32) &&& 31)).toInt8.toInt32))), .second, .val (.double (FP.i2d ((p2 >>> ((16 : Int32) &&& 31)).toInt8.toInt32))), .second, .val (.double (FP.dadd (FP.dadd (FP.dmul (FP.i2d (p0.toInt8.toInt32)) (FP.i2d ((q >>> ((16 : Int32) &&& 31)).toInt8.toInt32))) (FP.dmul (FP.i2d (p1.toInt8.toInt32)) (FP.i2d ((p1 >>> ((16 : Int32) &&& 31)).toInt8.toInt32)))) (FP.dmul (FP.i2d (p2.toInt8.toInt32)) (FP.i2d ((p2 >>> ((16 : Int32) &&& 31)).toInt8.toInt32))))), .second]) rfl (n := 265) rfl ?_
              refine aload P at_265 rfl rfl (n := 267) rfl ?_
              have ev0 : gv9 0 = (FP.i2d ((q >>> ((16 : Int32) &&& 31)).toInt8.toInt32)) := hv0.trans (if_neg (Int.not_lt.mpr hc202))
              have ev1 : gv9 1 = (FP.i2d ((p1 >>> ((16 : Int32) &&& 31)).toInt8.toInt32)) := hv1.trans (if_neg (Int.not_lt.mpr hc218))
              have ev2 : gv9 2 = (FP.i2d ((p2 >>> ((16 : Int32) &&& 31)).toInt8.toInt32)) := hv2.trans (if_neg (Int.not_lt.mpr hc234))
              refine callV P at_267 (a := a) (argsL := []) (rest := []) (c_obj l Z a0 hw a kc kl ku kv kp kr gc gl9 gu9 gv9 h70 n0 P.low S9 (by rw [gc0]; exact own_Bi _) (by rw [gc1]; exact own_Bi _) (by rw [gc2]; exact own_Bi _) (by rw [ev0]; exact own_Bi _) (by rw [ev1]; exact own_Bi _) (by rw [ev2]; exact own_Bi _)) S9.1 (hw _ (List.mem_of_getElem? (i := 76) rfl)) (hw _ (List.mem_of_getElem? (i := 77) rfl)) (notFace_of_selects (args := #[]) (mvT P.hZ (hw _ (List.mem_of_getElem? (i := 79) rfl)))) (hw _ (List.mem_of_getElem? (i := 79) rfl)) (hw _ (List.mem_of_getElem? (i := 78) rfl)) (hw _ (List.mem_of_getElem? (i := 3) rfl)) (hw _ (List.mem_of_getElem? (i := 80) rfl)) (by decide) pd_4 rfl rfl rfl ⟨by decide, Nat.le_of_ble_eq_true rfl, by decide, by decide⟩ (n := 270) rfl (Ret.on ?_)
              intro T P
              refine dload P at_270 rfl (n := 272) rfl ?_
              refine dcmp P at_272 (v := (0 : Int32)) (by rw [ev0, ev1, ev2, gc0, gc1, gc2]; exact (own_all (own_Bi _) (own_Bi _) (own_Bi _) (own_Bi _) (own_Bi _) (own_Bi _)).2.2) (n := 273) rfl ?_
              refine if0_ne P at_273 (n' := 280) (n := 276) (by decide) rfl (fun hc273 => ?_) (fun hc273 => ?_)
              · -- pc 273 taken
                replace hc273 : ¬ (0 : Int) = (0 : Int) := hc273
                exact absurd hc273 (by decide)
              · -- pc 273 not taken
                replace hc273 : (0 : Int) = (0 : Int) := hc273
                refine iconst P at_276 (x := (1 : Int32)) rfl (n := 277) rfl ?_
                refine goto P at_277 (n := 281) (by decide) ?_
                refine retZ P at_281 (by decide) (by decide) (by decide) ?_
                exact rfl
set_option maxRecDepth 65536 in
set_option maxHeartbeats 40000000 in
theorem comes_1 {Post : Tables → Env → Array Value → State → Outcome → State → Prop} (hpost : ∀ tb e args s v u, (limb_1_1.after args s (.returned v) u = true ∧ limb_1_2.after args s (.returned v) u = true ∧ True) → FrameEnd s (.returned v) u (Jvm.fieldLocs frame_1_writes args s ++ Jvm.arrayLocs frame_1_arrays args s ++ Jvm.staticLocs frame_1_statics s) 104 1088 → Post tb e args s (.returned v) u) :
    ArmFor flags0 classFile x code maxLocals ret World_1 tables_1 room_1 Calls_1 rest_1 Pre_1 Post := by
  intro l hfl _ _ p e ha hc hk s m args below hf hA hF happ hP
  obtain ⟨hcalls, hrest, hpre⟩ := hP
  obtain ⟨-, -, -, hnamed, -, -, -, hat⟩ := (Spec.applies_iff hf).mp happ
  obtain ⟨hg, hn⟩ := and_e (Cond.before_iff.mp (show (Jvm.Cond.and given_1 narrow_1).before args s = true from hpre))
  obtain ⟨q0, g0⟩ := and_e hg
  obtain ⟨w0, w1, w2, w3, rfl⟩ : ∃ w0 w1 w2 w3 : Value, args = #[w0, w1, w2, w3] := by
    have hs : args.size = 4 := by simpa [Cond.value, given_1] using q0
    obtain ⟨L⟩ := args
    match L, hs with
    | [w0, w1, w2, w3], _ => exact ⟨w0, w1, w2, w3, rfl⟩
  have hw := fun d (hd : d ∈ tables_1) => atoms_spec (ws := Jvm.Cond.code x code maxLocals ret :: tables_1) hat d (List.mem_cons_of_mem _ hd)
  obtain ⟨q1, g1⟩ := and_e g0
  obtain ⟨i0, e0⟩ := is_v q1
  obtain rfl : w0 = (.int i0) := Option.some.inj e0
  obtain ⟨q2, g2⟩ := and_e g1
  obtain ⟨i1, e1⟩ := is_v q2
  obtain rfl : w1 = (.int i1) := Option.some.inj e1
  obtain ⟨q3, g3⟩ := and_e g2
  obtain ⟨i2, e2⟩ := is_v q3
  obtain rfl : w2 = (.int i2) := Option.some.inj e2
  have q4 := g3
  obtain ⟨i3, e3⟩ := is_v q4
  obtain rfl : w3 = (.int i3) := Option.some.inj e3
  obtain ⟨n, o, h1, h2, h3, _, L, rfl, ⟨rfl, N⟩, hq⟩ := rm_law l s _ hw i0 i1 i2 i3 s.heap s.heap.size (Nat.le_refl _)  tables_1 p e ha hc hk s m _ below hf ((Spec.applies_iff_loose hf).mp happ).1 ⟨rfl, State.Warmed39.refl s, rfl⟩ trivial
  refine ⟨n, _, h1, h2, h3, hpost _ _ _ _ _ _ ⟨Cond.after_iff.mpr rfl, Cond.after_iff.mpr (eq_i res_at (Term.int_eval (1)) rfl), trivial⟩ ⟨hq.1, hq.2.1, (hq.2.2.sift fun y hy => Or.inr (N y hy)).mono (by decide) (by decide)⟩⟩
theorem main_1_1 : Claimed_1_1 := comes_1 fun _ _ _ _ _ _ h hF => ⟨h.1, hF⟩
theorem main_1_2 : Claimed_1_2 := comes_1 fun _ _ _ _ _ _ h hF => ⟨h.2.1, hF⟩
end Jvm.Pilot.@@N@@
namespace Jvm.Pilot.@@N@@
open Jvm Jvm.ClassFile Sem Op Lib Jvm.Free Jvm.Stand Jvm.Pilot.@@N@@.Jvm.D
/-! MADE BY PROGRAM (witnessworld.py) out of the Statement's table words and the real class files: 14 classes; the members and pool entries that the words name. The judged class is class 1, her method 1. -/
namespace start1
open Jvm.ClassFile
def u (s : String) : CpInfo := .utf8 (stringToUtf16 s)
/-- a pool by its gaps: so many unusable entries, then the entry; so many at the end -/
def gap : Nat → List CpInfo → List CpInfo
  | 0, r => r
  | n + 1, r => .unusable :: gap n r
def poolList (es : List (Nat × CpInfo)) (last : Nat) : List CpInfo := es.foldr (fun e r => gap e.1 (e.2 :: r)) (gap last [])
def pool (es : List (Nat × CpInfo)) (last : Nat) : Array CpInfo := ⟨poolList es last⟩
def fileOf (pool : Array CpInfo) (this : Nat) (attrs : Array Attribute := #[]) (ms : Array MethodInfo := #[]) (fl : Nat := 33) (sup : Nat := 0) (ifs : Array Nat := #[]) (fds : Array FieldInfo := #[]) : ClassFile where
  minorVersion := 0
  majorVersion := 65
  constantPool := pool
  accessFlags := fl
  thisClass := this
  superClass := sup
  interfaces := ifs
  fields := fds
  methods := ms
  attributes := attrs
def plain (name : String) (sup : Option ClassId) : Class where
  name := name
  kind := .ordinary
  loader := none
  accessFlags := 33
  super := sup
  interfaces := #[]
  cf := none
  fields := #[]
  methods := #[]
  instanceTypes := #[]
  staticTypes := #[]
  resolved := #[]
  callSites := []
  init := .initialized
  statics := none
  mirror := none

def pool0 : Array CpInfo := pool [(5, u "<init>"), (0, u "()V"), (1, .class_ 10), (1, u "java/lang/Object"), (85, u "clone"), (0, u "()Ljava/lang/Object;")] 26

def k0c0 : Code := { maxStack := 0, maxLocals := 1, code := object_method_1_code, exceptionTable := #[], attributes := #[] }
def k0m0 : Method := { name := "<init>", desc := "()V", sig := { parameters := [], returnType := none }, accessFlags := 1, code := some k0c0 }
def k0m1 : Method := { name := "clone", desc := "()Ljava/lang/Object;", sig := { parameters := [], returnType := some (.object "java/lang/Object") }, accessFlags := 260, code := none }
/-- java/lang/Object -/
def k0 : Class := { plain "java/lang/Object" none with
  accessFlags := 33
  interfaces := #[]
  cf := some (fileOf pool0 8 #[] #[{ accessFlags := 1, nameIndex := 5, descriptorIndex := 6, attributes := #[] }, { accessFlags := 260, nameIndex := 96, descriptorIndex := 97, attributes := #[] }] 33 0 #[] #[])
  fields := #[]
  methods := #[k0m0, k0m1]
  instanceTypes := #[]
  staticTypes := #[]
  resolved := Array.replicate 124 none
  statics := none }

def pool1 : Array CpInfo := pool [(2, .class_ 4), (1, u "java/lang/Object"), (0, u "<init>"), (0, u "()V"), (0, .class_ 8), (0, u "com/example/hertzbid/hertzbid/mechanisms/DualSimplex"), (0, .methodref 7 10), (0, .nameAndType 5 11), (0, u "([D[D[D)V"), (0, .methodref 7 13), (0, .nameAndType 14 15), (0, u "setBounds"), (0, u "(IDD)V"), (0, .methodref 7 17), (0, .nameAndType 18 19), (0, u "objective"), (0, u "()D"), (0, .class_ 21), (0, u "com/example/hertzbid/hertzbid/mechanisms/DualSimplexObjectivePinLaw"), (2, u "law"), (0, u "(IIII)Z")] 5

def k1m0 : Method := { name := "<init>", desc := "()V", sig := { parameters := [], returnType := none }, accessFlags := 1, code := none }
def k1c1 : Code := { maxStack := 6, maxLocals := 39, code := code, exceptionTable := #[], attributes := #[] }
def k1m1 : Method := { name := "law", desc := "(IIII)Z", sig := { parameters := [.int, .int, .int, .int], returnType := some .boolean }, accessFlags := 9, code := some k1c1 }
/-- com/example/hertzbid/hertzbid/mechanisms/DualSimplexObjectivePinLaw -/
def k1 : Class := { plain "com/example/hertzbid/hertzbid/mechanisms/DualSimplexObjectivePinLaw" (some 0) with
  accessFlags := 49
  interfaces := #[]
  cf := some (fileOf pool1 20 #[] #[{ accessFlags := 1, nameIndex := 5, descriptorIndex := 6, attributes := #[] }, { accessFlags := 9, nameIndex := 24, descriptorIndex := 25, attributes := #[] }] 49 2 #[] #[])
  fields := #[]
  methods := #[k1m0, k1m1]
  instanceTypes := #[]
  staticTypes := #[]
  resolved := Array.replicate 31 none
  statics := none }

def pool2 : Array CpInfo := pool [(1, .methodref 2 3), (0, .class_ 4), (0, .nameAndType 5 6), (0, u "java/lang/Object"), (0, u "<init>"), (0, u "()V"), (0, .class_ 8), (0, u "[I"), (0, .fieldref 10 11), (0, .class_ 12), (0, .nameAndType 13 14), (0, u "com/example/hertzbid/hertzbid/mechanisms/DualSimplex"), (0, u "rowColumns"), (0, u "[[I"), (0, .class_ 16), (0, u "[D"), (0, .fieldref 10 18), (0, .nameAndType 19 20), (0, u "rowCoefficients"), (0, u "[[D"), (0, .fieldref 10 22), (0, .nameAndType 23 16), (0, u "bound"), (0, .fieldref 10 25), (0, .nameAndType 26 16), (0, u "slack"), (0, .fieldref 10 28), (0, .nameAndType 29 8), (0, u "rowPlace"), (0, .fieldref 10 31), (0, .nameAndType 32 8), (0, u "tight"), (0, .fieldref 10 34), (0, .nameAndType 35 8), (0, u "basic"), (0, .class_ 20), (0, .fieldref 10 38), (0, .nameAndType 39 20), (0, u "inverse"), (0, .fieldref 10 41), (0, .nameAndType 42 16), (0, u "price"), (0, .fieldref 10 44), (0, .nameAndType 45 16), (0, u "pivotSlack"), (0, .fieldref 10 47), (0, .nameAndType 48 49), (0, u "columns"), (0, u "I"), (0, .methodref 15 51), (0, .nameAndType 52 53), (0, u "clone"), (0, u "()Ljava/lang/Object;"), (0, .fieldref 10 55), (0, .nameAndType 56 16), (0, u "cost"), (0, .fieldref 10 58), (0, .nameAndType 59 16), (0, u "lower"), (0, .fieldref 10 61), (0, .nameAndType 62 16), (0, u "upper"), (0, .fieldref 10 64), (0, .nameAndType 65 16), (0, u "value"), (0, .fieldref 10 67), (0, .nameAndType 68 8), (0, u "columnPlace"), (0, .methodref 70 71), (0, .class_ 72), (0, .nameAndType 73 74), (0, u "java/util/Arrays"), (0, u "fill"), (0, u "([II)V"), (0, .class_ 14), (0, .fieldref 10 77), (0, .nameAndType 78 14), (0, u "columnRows"), (0, .fieldref 10 80), (0, .nameAndType 81 20), (0, u "columnCoefficients"), (0, .fieldref 10 83), (0, .nameAndType 84 8), (0, u "columnLengths"), (0, .fieldref 10 86), (0, .nameAndType 87 16), (0, u "reduced"), (0, .fieldref 10 89), (0, .nameAndType 90 16), (0, u "pivotRow"), (2, u "rows"), (35, u "size"), (5, .class_ 136), (0, u "com/example/hertzbid/hertzbid/mechanisms/DualSimplex$Row"), (21, .class_ 160), (1, u "com/example/hertzbid/hertzbid/mechanisms/DualSimplex$Status"), (24, u "updates"), (5, u "objective"), (0, u "()D"), (76, u "FEASIBLE"), (0, u "D"), (1, u "DUAL_FEASIBLE"), (0, u "PIVOT"), (0, u "BLAND_PIVOT"), (0, u "STALL"), (1, u "REFRESH"), (1, u "([D[D[D)V"), (6, u "setBounds"), (0, u "(IDD)V")] 13

def k2c0 : Code := { maxStack := 6, maxLocals := 5, code := prog_4_method_1_code, exceptionTable := #[], attributes := #[] }
def k2m0 : Method := { name := "<init>", desc := "([D[D[D)V", sig := { parameters := [(.array .double), (.array .double), (.array .double)], returnType := none }, accessFlags := 0, code := some k2c0 }
def k2c1 : Code := { maxStack := 6, maxLocals := 6, code := prog_4_method_5_code, exceptionTable := #[], attributes := #[] }
def k2m1 : Method := { name := "setBounds", desc := "(IDD)V", sig := { parameters := [.int, .double, .double], returnType := none }, accessFlags := 0, code := some k2c1 }
def k2c2 : Code := { maxStack := 6, maxLocals := 4, code := prog_4_method_10_code, exceptionTable := #[], attributes := #[] }
def k2m2 : Method := { name := "objective", desc := "()D", sig := { parameters := [], returnType := some .double }, accessFlags := 0, code := some k2c2 }
/-- com/example/hertzbid/hertzbid/mechanisms/DualSimplex -/
def k2 : Class := { plain "com/example/hertzbid/hertzbid/mechanisms/DualSimplex" (some 0) with
  accessFlags := 32
  interfaces := #[]
  cf := some (fileOf pool2 10 #[.nestMembers #[135, 158]] #[{ accessFlags := 0, nameIndex := 5, descriptorIndex := 279, attributes := #[] }, { accessFlags := 0, nameIndex := 286, descriptorIndex := 287, attributes := #[] }, { accessFlags := 0, nameIndex := 191, descriptorIndex := 192, attributes := #[] }] 32 2 #[] #[{ accessFlags := 26, nameIndex := 269, descriptorIndex := 270, attributes := #[] }, { accessFlags := 26, nameIndex := 272, descriptorIndex := 270, attributes := #[] }, { accessFlags := 26, nameIndex := 273, descriptorIndex := 270, attributes := #[] }, { accessFlags := 26, nameIndex := 274, descriptorIndex := 270, attributes := #[] }, { accessFlags := 26, nameIndex := 275, descriptorIndex := 49, attributes := #[] }, { accessFlags := 26, nameIndex := 277, descriptorIndex := 49, attributes := #[] }, { accessFlags := 18, nameIndex := 48, descriptorIndex := 49, attributes := #[] }, { accessFlags := 18, nameIndex := 56, descriptorIndex := 16, attributes := #[] }, { accessFlags := 18, nameIndex := 59, descriptorIndex := 16, attributes := #[] }, { accessFlags := 18, nameIndex := 62, descriptorIndex := 16, attributes := #[] }, { accessFlags := 18, nameIndex := 65, descriptorIndex := 16, attributes := #[] }, { accessFlags := 18, nameIndex := 68, descriptorIndex := 8, attributes := #[] }, { accessFlags := 2, nameIndex := 78, descriptorIndex := 14, attributes := #[] }, { accessFlags := 2, nameIndex := 81, descriptorIndex := 20, attributes := #[] }, { accessFlags := 2, nameIndex := 84, descriptorIndex := 8, attributes := #[] }, { accessFlags := 2, nameIndex := 93, descriptorIndex := 49, attributes := #[] }, { accessFlags := 2, nameIndex := 13, descriptorIndex := 14, attributes := #[] }, { accessFlags := 2, nameIndex := 19, descriptorIndex := 20, attributes := #[] }, { accessFlags := 2, nameIndex := 23, descriptorIndex := 16, attributes := #[] }, { accessFlags := 2, nameIndex := 26, descriptorIndex := 16, attributes := #[] }, { accessFlags := 2, nameIndex := 29, descriptorIndex := 8, attributes := #[] }, { accessFlags := 2, nameIndex := 129, descriptorIndex := 49, attributes := #[] }, { accessFlags := 2, nameIndex := 32, descriptorIndex := 8, attributes := #[] }, { accessFlags := 2, nameIndex := 35, descriptorIndex := 8, attributes := #[] }, { accessFlags := 2, nameIndex := 39, descriptorIndex := 20, attributes := #[] }, { accessFlags := 2, nameIndex := 185, descriptorIndex := 49, attributes := #[] }, { accessFlags := 2, nameIndex := 42, descriptorIndex := 16, attributes := #[] }, { accessFlags := 18, nameIndex := 87, descriptorIndex := 16, attributes := #[] }, { accessFlags := 18, nameIndex := 90, descriptorIndex := 16, attributes := #[] }, { accessFlags := 2, nameIndex := 45, descriptorIndex := 16, attributes := #[] }])
  fields := #[{ name := "FEASIBLE", type := .double, accessFlags := 26, slot := 0, constantValue := 0 }, { name := "DUAL_FEASIBLE", type := .double, accessFlags := 26, slot := 1, constantValue := 0 }, { name := "PIVOT", type := .double, accessFlags := 26, slot := 2, constantValue := 0 }, { name := "BLAND_PIVOT", type := .double, accessFlags := 26, slot := 3, constantValue := 0 }, { name := "STALL", type := .int, accessFlags := 26, slot := 4, constantValue := 0 }, { name := "REFRESH", type := .int, accessFlags := 26, slot := 5, constantValue := 0 }, { name := "columns", type := .int, accessFlags := 18, slot := 0, constantValue := 0 }, { name := "cost", type := (.array .double), accessFlags := 18, slot := 1, constantValue := 0 }, { name := "lower", type := (.array .double), accessFlags := 18, slot := 2, constantValue := 0 }, { name := "upper", type := (.array .double), accessFlags := 18, slot := 3, constantValue := 0 }, { name := "value", type := (.array .double), accessFlags := 18, slot := 4, constantValue := 0 }, { name := "columnPlace", type := (.array .int), accessFlags := 18, slot := 5, constantValue := 0 }, { name := "columnRows", type := (.array (.array .int)), accessFlags := 2, slot := 6, constantValue := 0 }, { name := "columnCoefficients", type := (.array (.array .double)), accessFlags := 2, slot := 7, constantValue := 0 }, { name := "columnLengths", type := (.array .int), accessFlags := 2, slot := 8, constantValue := 0 }, { name := "rows", type := .int, accessFlags := 2, slot := 9, constantValue := 0 }, { name := "rowColumns", type := (.array (.array .int)), accessFlags := 2, slot := 10, constantValue := 0 }, { name := "rowCoefficients", type := (.array (.array .double)), accessFlags := 2, slot := 11, constantValue := 0 }, { name := "bound", type := (.array .double), accessFlags := 2, slot := 12, constantValue := 0 }, { name := "slack", type := (.array .double), accessFlags := 2, slot := 13, constantValue := 0 }, { name := "rowPlace", type := (.array .int), accessFlags := 2, slot := 14, constantValue := 0 }, { name := "size", type := .int, accessFlags := 2, slot := 15, constantValue := 0 }, { name := "tight", type := (.array .int), accessFlags := 2, slot := 16, constantValue := 0 }, { name := "basic", type := (.array .int), accessFlags := 2, slot := 17, constantValue := 0 }, { name := "inverse", type := (.array (.array .double)), accessFlags := 2, slot := 18, constantValue := 0 }, { name := "updates", type := .int, accessFlags := 2, slot := 19, constantValue := 0 }, { name := "price", type := (.array .double), accessFlags := 2, slot := 20, constantValue := 0 }, { name := "reduced", type := (.array .double), accessFlags := 18, slot := 21, constantValue := 0 }, { name := "pivotRow", type := (.array .double), accessFlags := 18, slot := 22, constantValue := 0 }, { name := "pivotSlack", type := (.array .double), accessFlags := 2, slot := 23, constantValue := 0 }]
  methods := #[k2m0, k2m1, k2m2]
  instanceTypes := #[.int, (.array .double), (.array .double), (.array .double), (.array .double), (.array .int), (.array (.array .int)), (.array (.array .double)), (.array .int), .int, (.array (.array .int)), (.array (.array .double)), (.array .double), (.array .double), (.array .int), .int, (.array .int), (.array .int), (.array (.array .double)), .int, (.array .double), (.array .double), (.array .double), (.array .double)]
  staticTypes := #[.double, .double, .double, .double, .int, .int]
  resolved := Array.replicate 301 none
  statics := none }

def pool3 : Array CpInfo := pool [(1, .class_ 2), (0, u "java/lang/Cloneable"), (0, .class_ 4), (0, u "java/lang/Object")] 2

/-- java/lang/Cloneable -/
def k3 : Class := { plain "java/lang/Cloneable" (some 0) with
  accessFlags := 1537
  interfaces := #[]
  cf := some (fileOf pool3 1 #[] #[] 1537 3 #[] #[])
  fields := #[]
  methods := #[]
  instanceTypes := #[]
  staticTypes := #[]
  resolved := Array.replicate 7 none
  statics := none }

def pool4 : Array CpInfo := pool [(2, .class_ 4), (1, u "java/lang/Object"), (0, u "<init>"), (0, u "()V"), (7, .class_ 16), (1, u "java/util/Arrays"), (57, .class_ 76), (1, u "java/util/Arrays$NaturalOrder"), (36, .class_ 115), (1, u "java/util/Arrays$LegacyMergeSort"), (1, u "Z"), (257, .class_ 376), (0, u "java/util/Arrays$ArrayList"), (68, u "$assertionsDisabled"), (269, u "MIN_ARRAY_SORT_GRAN"), (0, u "I"), (2, u "INSERTIONSORT_THRESHOLD"), (120, u "fill"), (4, u "([II)V"), (129, .class_ 976), (0, u "java/util/Arrays$ArrayItr")] 52

def k4m0 : Method := { name := "<init>", desc := "()V", sig := { parameters := [], returnType := none }, accessFlags := 2, code := none }
def k4c1 : Code := { maxStack := 3, maxLocals := 4, code := jdk_65_method_103_code, exceptionTable := #[], attributes := #[] }
def k4m1 : Method := { name := "fill", desc := "([II)V", sig := { parameters := [(.array .int), .int], returnType := none }, accessFlags := 9, code := some k4c1 }
/-- java/util/Arrays -/
def k4 : Class := { plain "java/util/Arrays" (some 0) with
  accessFlags := 49
  interfaces := #[]
  cf := some (fileOf pool4 14 #[.nestMembers #[975, 375, 113, 74]] #[{ accessFlags := 2, nameIndex := 5, descriptorIndex := 6, attributes := #[] }, { accessFlags := 9, nameIndex := 840, descriptorIndex := 845, attributes := #[] }] 49 2 #[] #[{ accessFlags := 26, nameIndex := 715, descriptorIndex := 716, attributes := #[] }, { accessFlags := 26, nameIndex := 719, descriptorIndex := 716, attributes := #[] }, { accessFlags := 4120, nameIndex := 445, descriptorIndex := 117, attributes := #[] }])
  fields := #[{ name := "MIN_ARRAY_SORT_GRAN", type := .int, accessFlags := 26, slot := 0, constantValue := 0 }, { name := "INSERTIONSORT_THRESHOLD", type := .int, accessFlags := 26, slot := 1, constantValue := 0 }, { name := "$assertionsDisabled", type := .boolean, accessFlags := 4120, slot := 2, constantValue := 0 }]
  methods := #[k4m0, k4m1]
  instanceTypes := #[]
  staticTypes := #[.int, .int, .boolean]
  resolved := Array.replicate 1029 none
  statics := none }

def pool5 : Array CpInfo := pool [(1, u "java/io/Serializable"), (0, .class_ 1), (0, u "java/lang/Object"), (0, .class_ 3)] 3

/-- java/io/Serializable -/
def k5 : Class := { plain "java/io/Serializable" (some 0) with
  accessFlags := 1537
  interfaces := #[]
  cf := some (fileOf pool5 2 #[] #[] 1537 4 #[] #[])
  fields := #[]
  methods := #[]
  instanceTypes := #[]
  staticTypes := #[]
  resolved := Array.replicate 8 none
  statics := none }

/-- the primitive byte -/
def k6 : Class := { plain "byte" none with kind := .primitive 'B', accessFlags := 0x411 }
/-- [B -/
def k7 : Class := { plain "[B" (some 0) with kind := .array 6 .byte, interfaces := #[3, 5], accessFlags := 1041 }

/-- the primitive double -/
def k8 : Class := { plain "double" none with kind := .primitive 'D', accessFlags := 0x411 }
/-- [D -/
def k9 : Class := { plain "[D" (some 0) with kind := .array 8 .double, interfaces := #[3, 5], accessFlags := 1041 }

/-- the primitive int -/
def k10 : Class := { plain "int" none with kind := .primitive 'I', accessFlags := 0x411 }
/-- [I -/
def k11 : Class := { plain "[I" (some 0) with kind := .array 10 .int, interfaces := #[3, 5], accessFlags := 1041 }

/-- [[D -/
def k12 : Class := { plain "[[D" (some 0) with kind := .array 9 (.array .double), interfaces := #[3, 5], accessFlags := 1041 }

/-- [[I -/
def k13 : Class := { plain "[[I" (some 0) with kind := .array 11 (.array .int), interfaces := #[3, 5], accessFlags := 1041 }

def heap : Heap := #[]
def classes : Array Class := #[k0, k1, k2, k3, k4, k5, k6, k7, k8, k9, k10, k11, k12, k13]
def interned : List (Array UInt16 × Addr) := []
def slotsUsed : Nat := 0
def theMethod : MethodId := ⟨1, 1⟩
def args0 : Array Value := #[.int 5, .int 5, .int 5, .int 5]
def aboutOver (below : List Frame) : State where
  vm := { classes := classes, interned := interned.toArray }
  heap := heap
  slotsUsed := slotsUsed
  threads := #[{ frames := .invoking theMethod args0 :: below }]
def below0 : List Frame := [.native { method := ⟨0, 0⟩, args := #[] }]
def about1 : State := aboutOver below0
def p0 : Program := .bare "" "" ""
def e0 : Env := launch0.env 0 0 0
theorem w_frames : about1.frames = Frame.invoking theMethod args0 :: below0 := rfl
set_option maxRecDepth 65536 in
theorem w_args : argsFit about1.vm theMethod args0 = true := by decide +kernel
set_option maxRecDepth 65536 in
theorem w_heap : heapFits about1 = true := by decide +kernel
set_option maxRecDepth 65536 in
theorem w_runnable : about1.curStatus? = some .runnable := by decide +kernel
set_option maxRecDepth 65536 in
theorem w_alone : about1.alone = true := by decide +kernel
set_option maxRecDepth 65536 in
theorem w_named : about1.methodNamed? x = some theMethod := by decide +kernel
set_option maxRecDepth 65536 in
theorem w_hears : about1.hears theMethod below0 = true := by decide +kernel
set_option maxRecDepth 65536 in
theorem w_ripe : about1.ripe theMethod args0 below0 = true := by decide +kernel
theorem w_running : about1.status = .running := rfl
set_option maxRecDepth 65536 in
theorem w_room : about1.hasRoom e0.platform room_1 = true :=
  launch0.hasRoom_least _ room_1 (by decide +kernel) (by decide +kernel) (by decide +kernel) (by decide +kernel) (by decide +kernel) (by decide +kernel)
theorem allAtoms_all (ts : List Jvm.Cond) (a : Array Jvm.Value) (st : Jvm.State) : (allAtoms ts).before a st = ts.all (fun c => c.before a st) := by
  induction ts with
  | nil => rfl
  | cons c t ih =>
    show (Jvm.Cond.and c (allAtoms t)).before a st = _
    rw [Jvm.Cond.before_and, ih, List.all_cons]
def words1 : List Jvm.Cond := Jvm.Cond.code x code maxLocals ret :: tables_1
/-- a 'code' word, met by the world's own term for the bytes: nothing is compared byte by byte -/
theorem code_word {y : MethodName} {bytes : ByteArray} {mx : Nat} {rt : Option FieldType} {a : Array Value} {s : State} {m : MethodId} {meth : Method} {c : Code} (h1 : s.methodNamed? y = some m) (h2 : s.vm.method? m = some meth) (h3 : meth.code = some c) (h4 : c.code = bytes)
    (h5 : (c.maxLocals == mx && c.exceptionTable.isEmpty && decide (c.maxStack ≤ mostOperands) && decide (meth.sig.returnType = rt) && !meth.locks && decide (parseMethodDescriptor y.desc = some meth.sig)) = true) : (Jvm.Cond.code y bytes mx rt).before a s = true := by
  simp only [Bool.and_eq_true, beq_iff_eq, Bool.not_eq_true', decide_eq_true_eq] at h5
  obtain ⟨⟨⟨⟨⟨g1, g2⟩, g3⟩, g4⟩, g5⟩, g6⟩ := h5
  simp [Cond.before, Cond.holds, Cond.value, h1, h2, h3, h4, g1, g2, g3, g4, g5, g6]
def isCode : Jvm.Cond → Bool
  | .code _ _ _ _ => true
  | _ => false
theorem all_split {L : List Jvm.Cond} {P : Jvm.Cond → Bool} (h1 : L.all (fun c => isCode c || P c) = true) (h2 : ∀ c ∈ L.filter isCode, P c = true) : L.all P = true := by
  refine List.all_eq_true.mpr fun c hc => ?_
  have h := List.all_eq_true.mp h1 c hc
  rcases Bool.eq_false_or_eq_true (isCode c) with hi | hi
  · exact h2 c (List.mem_filter.mpr ⟨hc, hi⟩)
  · simpa [hi] using h
set_option maxRecDepth 65536 in
theorem w_c0 : (Jvm.Cond.code x code maxLocals ret).before args0 about1 = true := code_word (m := ⟨1, 1⟩) (meth := k1m1) (c := k1c1) (by decide +kernel) rfl rfl rfl (by decide +kernel)
set_option maxRecDepth 65536 in
theorem w_c1 : (Jvm.Cond.code ({ cls := "com/example/hertzbid/hertzbid/mechanisms/DualSimplex", name := "<init>", desc := "([D[D[D)V" } : Jvm.MethodName) prog_4_method_1_code (5 : Nat) (Option.none : Option Jvm.ClassFile.FieldType)).before args0 about1 = true := code_word (m := ⟨2, 0⟩) (meth := k2m0) (c := k2c0) (by decide +kernel) rfl rfl rfl (by decide +kernel)
set_option maxRecDepth 65536 in
theorem w_c2 : (Jvm.Cond.code ({ cls := "java/lang/Object", name := "<init>", desc := "()V" } : Jvm.MethodName) object_method_1_code (1 : Nat) (Option.none : Option Jvm.ClassFile.FieldType)).before args0 about1 = true := code_word (m := ⟨0, 0⟩) (meth := k0m0) (c := k0c0) (by decide +kernel) rfl rfl rfl (by decide +kernel)
set_option maxRecDepth 65536 in
theorem w_c3 : (Jvm.Cond.code ({ cls := "java/util/Arrays", name := "fill", desc := "([II)V" } : Jvm.MethodName) jdk_65_method_103_code (4 : Nat) (Option.none : Option Jvm.ClassFile.FieldType)).before args0 about1 = true := code_word (m := ⟨4, 1⟩) (meth := k4m1) (c := k4c1) (by decide +kernel) rfl rfl rfl (by decide +kernel)
set_option maxRecDepth 65536 in
theorem w_c4 : (Jvm.Cond.code ({ cls := "com/example/hertzbid/hertzbid/mechanisms/DualSimplex", name := "setBounds", desc := "(IDD)V" } : Jvm.MethodName) prog_4_method_5_code (6 : Nat) (Option.none : Option Jvm.ClassFile.FieldType)).before args0 about1 = true := code_word (m := ⟨2, 1⟩) (meth := k2m1) (c := k2c1) (by decide +kernel) rfl rfl rfl (by decide +kernel)
set_option maxRecDepth 65536 in
theorem w_c5 : (Jvm.Cond.code ({ cls := "com/example/hertzbid/hertzbid/mechanisms/DualSimplex", name := "objective", desc := "()D" } : Jvm.MethodName) prog_4_method_10_code (4 : Nat) (Option.some Jvm.ClassFile.FieldType.double)).before args0 about1 = true := code_word (m := ⟨2, 2⟩) (meth := k2m2) (c := k2c2) (by decide +kernel) rfl rfl rfl (by decide +kernel)
def codes1 : List Jvm.Cond := [Jvm.Cond.code x code maxLocals ret, Jvm.Cond.code ({ cls := "com/example/hertzbid/hertzbid/mechanisms/DualSimplex", name := "<init>", desc := "([D[D[D)V" } : Jvm.MethodName) prog_4_method_1_code (5 : Nat) (Option.none : Option Jvm.ClassFile.FieldType), Jvm.Cond.code ({ cls := "java/lang/Object", name := "<init>", desc := "()V" } : Jvm.MethodName) object_method_1_code (1 : Nat) (Option.none : Option Jvm.ClassFile.FieldType), Jvm.Cond.code ({ cls := "java/util/Arrays", name := "fill", desc := "([II)V" } : Jvm.MethodName) jdk_65_method_103_code (4 : Nat) (Option.none : Option Jvm.ClassFile.FieldType), Jvm.Cond.code ({ cls := "com/example/hertzbid/hertzbid/mechanisms/DualSimplex", name := "setBounds", desc := "(IDD)V" } : Jvm.MethodName) prog_4_method_5_code (6 : Nat) (Option.none : Option Jvm.ClassFile.FieldType), Jvm.Cond.code ({ cls := "com/example/hertzbid/hertzbid/mechanisms/DualSimplex", name := "objective", desc := "()D" } : Jvm.MethodName) prog_4_method_10_code (4 : Nat) (Option.some Jvm.ClassFile.FieldType.double)]
set_option maxRecDepth 65536 in
theorem codes_eq : words1.filter isCode = codes1 := rfl
theorem w_codes : ∀ c ∈ words1.filter isCode, c.before args0 about1 = true := by
  rw [codes_eq]
  intro c hc
  simp only [codes1, List.mem_cons, List.not_mem_nil, or_false] at hc
  rcases hc with rfl | rfl | rfl | rfl | rfl | rfl
  · exact w_c0
  · exact w_c1
  · exact w_c2
  · exact w_c3
  · exact w_c4
  · exact w_c5
set_option maxRecDepth 65536 in
theorem w_t1 : (words1.take 24).all (fun c => isCode c || c.before args0 about1) = true := by decide +kernel
set_option maxRecDepth 65536 in
theorem w_t2 : ((words1.drop 24).take 24).all (fun c => isCode c || c.before args0 about1) = true := by decide +kernel
set_option maxRecDepth 65536 in
theorem w_t3 : (((words1.drop 24).drop 24).take 24).all (fun c => isCode c || c.before args0 about1) = true := by decide +kernel
set_option maxRecDepth 65536 in
theorem w_t4 : (((words1.drop 24).drop 24).drop 24).all (fun c => isCode c || c.before args0 about1) = true := by decide +kernel
theorem w_tables : (allAtoms (Jvm.Cond.code x code maxLocals ret :: tables_1)).before args0 about1 = true := by
  rw [allAtoms_all]
  show words1.all (fun c => c.before args0 about1) = true
  refine all_split ?_ w_codes
  rw [← List.take_append_drop 24 words1, List.all_append, w_t1, ← List.take_append_drop 24 (words1.drop 24), List.all_append, w_t2, ← List.take_append_drop 24 ((words1.drop 24).drop 24), List.all_append, w_t3, w_t4]
  rfl
set_option maxRecDepth 65536 in
theorem w_case : (Jvm.Cond.and given_1 narrow_1).before args0 about1 = true := by decide +kernel
theorem w_applies : (headSpec (Jvm.Cond.code x code maxLocals ret :: tables_1) room_1).applies x e0.platform about1 = true :=
  (Spec.applies_iff w_frames).mpr ⟨w_running, w_runnable, w_alone, w_named, w_hears, w_ripe, w_room, w_tables⟩
theorem atStart : AtStart classFile x code maxLocals ret World_1 tables_1 room_1 Calls_1 rest_1 Pre_1 launch0 p0 e0 about1 theMethod args0 below0 :=
  ⟨lists_1, trivial, launch0.admits_env _ _ _, launch0.least_env, fairChoices_fair.cas, fairChoices_fair.clock, w_frames, w_args, w_heap, w_applies, trivial, trivial, w_case⟩
end start1
theorem witness_1 : WitnessClaimed_1 := ⟨start1.p0, start1.e0, start1.about1, start1.theMethod, start1.args0, start1.below0, start1.atStart⟩
end Jvm.Pilot.@@N@@
