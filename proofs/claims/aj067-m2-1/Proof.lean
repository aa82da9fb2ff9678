import JvmDerived
import JvmDerived.Pilot.@@N@@Statement
import JvmDerived.Pilot.@@N@@Code
set_option linter.unusedVariables false
set_option linter.unusedSimpArgs false
namespace Jvm.Own
open Jvm Jvm.ClassFile Sem Op Lib Jvm.Free Jvm.Stand Jvm.LawKit Jvm.RoadKit
section Core
variable {p : Program} {l : Launch} {e : Env} {R : Room} {s : State} {m : MethodId} {args : Array Value} {below : List Frame} {meth : Method} {c : Code} {Z : State} {own nm : String} {bytes : ByteArray} {maxL : Nat} {ret : Option FieldType} {n0 : Nat} {a0 : Array Value}
  {T T' : State} {h h' : Heap} {cells slots : Nat} {Q : Option Value → Heap → Prop} {Ls : Array Slot} {st : List Value} {pc n : Nat}
/-- where a walk stands: the state T, its heap h, the cells and slots made so far; nothing below n0 written -/
def Pos (p : Program) (l : Launch) (e : Env) (R : Room) (s : State) (m : MethodId) (args : Array Value) (below : List Frame) (meth : Method) (c : Code) (Z : State) (own nm : String) (bytes : ByteArray) (maxL : Nat) (ret : Option FieldType) (n0 : Nat) (T : State) (h : Heap) (cells slots : Nat) : Prop :=
  (∃ locs, Stand p l e R s m args below meth c T locs cells slots ∧ Fr n0 locs) ∧ T.heap = h ∧ p.tables.exec = Jvm.exec ∧ c.code = bytes ∧ c.maxLocals = maxL ∧ s.vm.findClass own = some m.cls ∧ Z.Warmed39 s.vm ∧ meth.sig.returnType = ret ∧ meth.name = nm ∧ meth.locks = false ∧ n0 ≤ s.heap.size
/-- from the frame g the method comes to its end as Q says -/
def Ends (p : Program) (e : Env) (below : List Frame) (s : State) (R : Room) (n0 : Nat) (Q : Option Value → Heap → Prop) (T : State) (g : JFrame) : Prop :=
  ∃ s₂ o, Steps p.tables e below (T.setTop g) s₂ ∧ s₂.status = .running ∧ Ended s₂ below o ∧ ∃ v L, o = .returned v ∧ (Q v s₂.heap ∧ Fr n0 L) ∧ FrameEnd s o s₂ L R.cells R.slots
/-- a method's contract at given arguments and a given heap -/
def Meth (l : Launch) (Z : State) (y : MethodName) (bytes : ByteArray) (maxL : Nat) (ret : Option FieldType) (rm : Room) (as : Array Value) (h : Heap) (n0 : Nat) (Q : Option Value → Heap → Prop) : Prop :=
  ∀ ws : List Cond, MetFree l y (head1 (Cond.code y bytes maxL ret :: ws) rm) (fun a U => a = as ∧ Z.Warmed39 U.vm ∧ U.heap = h) (fun _ _ _ _ _ => True) (fun _ U o U' => ∃ v L, o = .returned v ∧ (Q v U'.heap ∧ Fr n0 L) ∧ FrameEnd U o U' L rm.cells rm.slots)
theorem Pos.stand (P : Pos p l e R s m args below meth c Z own nm bytes maxL ret n0 T h cells slots) : ∃ locs, Stand p l e R s m args below meth c T locs cells slots ∧ Fr n0 locs := P.1
theorem Pos.heap (P : Pos p l e R s m args below meth c Z own nm bytes maxL ret n0 T h cells slots) : T.heap = h := P.2.1
theorem Pos.hx (P : Pos p l e R s m args below meth c Z own nm bytes maxL ret n0 T h cells slots) : p.tables.exec = Jvm.exec := P.2.2.1
theorem Pos.code (P : Pos p l e R s m args below meth c Z own nm bytes maxL ret n0 T h cells slots) : c.code = bytes := P.2.2.2.1
theorem Pos.maxl (P : Pos p l e R s m args below meth c Z own nm bytes maxL ret n0 T h cells slots) : c.maxLocals = maxL := P.2.2.2.2.1
theorem Pos.own' (P : Pos p l e R s m args below meth c Z own nm bytes maxL ret n0 T h cells slots) : s.vm.findClass own = some m.cls := P.2.2.2.2.2.1
theorem Pos.hZ (P : Pos p l e R s m args below meth c Z own nm bytes maxL ret n0 T h cells slots) : Z.Warmed39 s.vm := P.2.2.2.2.2.2.1
theorem Pos.rets (P : Pos p l e R s m args below meth c Z own nm bytes maxL ret n0 T h cells slots) : meth.sig.returnType = ret := P.2.2.2.2.2.2.2.1
theorem Pos.name (P : Pos p l e R s m args below meth c Z own nm bytes maxL ret n0 T h cells slots) : meth.name = nm := P.2.2.2.2.2.2.2.2.1
theorem Pos.locks (P : Pos p l e R s m args below meth c Z own nm bytes maxL ret n0 T h cells slots) : meth.locks = false := P.2.2.2.2.2.2.2.2.2.1
theorem Pos.low0 (P : Pos p l e R s m args below meth c Z own nm bytes maxL ret n0 T h cells slots) : n0 ≤ s.heap.size := P.2.2.2.2.2.2.2.2.2.2
theorem Pos.low (P : Pos p l e R s m args below meth c Z own nm bytes maxL ret n0 T h cells slots) : n0 ≤ h.size := by
  obtain ⟨_, X, -⟩ := P.stand; rw [← P.heap]; exact Nat.le_trans P.low0 X.same.2.1
theorem Pos.here (P : Pos p l e R s m args below meth c Z own nm bytes maxL ret n0 T h cells slots) : At T m c below := by obtain ⟨_, X, -⟩ := P.stand; exact X.here
/-- on to another state of the same walk -/
theorem Pos.to (P : Pos p l e R s m args below meth c Z own nm bytes maxL ret n0 T h cells slots) {cells' slots' : Nat} {locs : List Loc} (X : Stand p l e R s m args below meth c T' locs cells' slots') (N : Fr n0 locs) (e' : T'.heap = h') : Pos p l e R s m args below meth c Z own nm bytes maxL ret n0 T' h' cells' slots' :=
  ⟨⟨_, X, N⟩, e', P.2.2.1, P.2.2.2.1, P.2.2.2.2.1, P.2.2.2.2.2.1, P.2.2.2.2.2.2.1, P.2.2.2.2.2.2.2.1, P.2.2.2.2.2.2.2.2.1, P.2.2.2.2.2.2.2.2.2.1, P.low0⟩
theorem Ends.via {g g' : JFrame} (E : Ends p e below s R n0 Q T' g') (k : ∀ t, Steps p.tables e below (T'.setTop g') t → Steps p.tables e below (T.setTop g) t) : Ends p e below s R n0 Q T g := by
  obtain ⟨s₂, o, h1, h2⟩ := E; exact ⟨s₂, o, k _ h1, h2⟩
theorem Ends.cast {g g' : JFrame} (q : g = g') (E : Ends p e below s R n0 Q T g') : Ends p e below s R n0 Q T g := q ▸ E
/-- a value by a name -/
theorem nameI {α : Type} {x : α} {F : α → Prop} (k : ∀ z, z = x → F z) : F x := k x rfl
theorem Meth.of {y : MethodName} {rm : Room} {as : Array Value} (hcls : plainFor y = true) (hlow : n0 ≤ h.size)
    (body : ∀ p e s m args below meth c T, Pos p l e rm s m args below meth c Z y.cls y.name bytes maxL ret n0 T h 0 0 → Ends p e below s rm n0 Q T (entryFrame m as maxL)) : Meth l Z y bytes maxL ret rm as h n0 Q := by
  intro ws
  refine MetFree.of_bodySF hcls hisR ?_
  intro p e s m args below meth c s₁ Bd hml0 hP hK
  obtain ⟨rfl, hZ, hh⟩ := hP
  have hown : s.vm.findClass y.cls = some m.cls := findClass_of_methodNamed Bd.named
  have hnm := (name_of_methodNamed Bd.named Bd.method).1
  have X0 : Stand p l e rm s m args below meth c s₁ [] 0 0 := Stand.of_body Bd
  have e0 : s₁.heap = h := by rw [← hh, Bd.state]; rfl
  exact body p e s m args below meth c s₁ ⟨⟨[], X0, Fr.nil n0⟩, e0, Bd.exec, Bd.bytes, hml0, hown, hZ, Bd.returns, hnm, Bd.notSynchronized, hh ▸ hlow⟩
/-! returns -/
theorem retV (P : Pos p l e R s m args below meth c Z own nm bytes maxL none n0 T h cells slots) (hd : decode bytes pc = .ok (.return_, 1)) (hc : cells ≤ R.cells) (hs : slots ≤ R.slots) (q : Q none h) : Ends p e below s R n0 Q T (mkF m pc Ls []) := by
  obtain ⟨locs, X, N⟩ := P.stand
  obtain ⟨fs, hr, hrun, hended, hW, hsame⟩ := X.leave (v := none) (fun _ => rfl) P.locks
  refine ⟨_, _, X.returnOut P.hx P.rets (hb P.code hd) hr, hrun, hended, _, _, rfl, ⟨?_, N⟩, ⟨_, rfl⟩, hW, hsame.mono hc hs⟩
  show Q none T.heap
  rw [P.heap]; exact q
theorem retA {w : Value} {t : FieldType} {i : Instr} (P : Pos p l e R s m args below meth c Z own nm bytes maxL (some t) n0 T h cells slots) (hd : decode bytes pc = .ok (i, 1)) (hn : narrow t w = w)
    (hi : (i = .ireturn ∧ (t = .int ∨ t = .boolean ∨ t = .byte ∨ t = .char ∨ t = .short) ∧ ∃ z, w = .int z) ∨ (i = .lreturn ∧ t = .long ∧ ∃ z, w = .long z) ∨ (i = .dreturn ∧ t = .double ∧ ∃ z, w = .double z) ∨ (i = .freturn ∧ t = .float ∧ ∃ z, w = .float z) ∨ (i = .areturn ∧ t.isReference = true ∧ w.isRef = true))
    (hc : cells ≤ R.cells) (hs : slots ≤ R.slots) (q : Q (some w) h) : Ends p e below s R n0 Q T (mkF m pc Ls (w :: st)) := by
  obtain ⟨locs, X, N⟩ := P.stand
  obtain ⟨fs, hr, hrun, hended, hW, hsame⟩ := X.leave (v := some w) (fun h => by rw [P.rets] at h; cases h) P.locks
  refine ⟨_, _, retOut X P.hx P.rets hn hi (hb P.code hd) hr, hrun, hended, _, _, rfl, ⟨?_, N⟩, ⟨_, rfl⟩, hW, hsame.mono hc hs⟩
  show Q (some w) T.heap
  rw [P.heap]; exact q
theorem retI {x : Int32} (P : Pos p l e R s m args below meth c Z own nm bytes maxL (some .int) n0 T h cells slots) (hd : decode bytes pc = .ok (.ireturn, 1)) (hc : cells ≤ R.cells) (hs : slots ≤ R.slots) (q : Q (some (.int x)) h) : Ends p e below s R n0 Q T (mkF m pc Ls (.int x :: st)) :=
  retA P hd rfl (Or.inl ⟨rfl, Or.inl rfl, _, rfl⟩) hc hs q
theorem retL {x : Int64} (P : Pos p l e R s m args below meth c Z own nm bytes maxL (some .long) n0 T h cells slots) (hd : decode bytes pc = .ok (.lreturn, 1)) (hc : cells ≤ R.cells) (hs : slots ≤ R.slots) (q : Q (some (.long x)) h) : Ends p e below s R n0 Q T (mkF m pc Ls (.long x :: st)) :=
  retA P hd rfl (Or.inr (Or.inl ⟨rfl, rfl, _, rfl⟩)) hc hs q
theorem retR {w : Value} {C : String} (P : Pos p l e R s m args below meth c Z own nm bytes maxL (some (.object C)) n0 T h cells slots) (hd : decode bytes pc = .ok (.areturn, 1)) (hw : w.isRef = true) (hc : cells ≤ R.cells) (hs : slots ≤ R.slots) (q : Q (some w) h) : Ends p e below s R n0 Q T (mkF m pc Ls (w :: st)) := by
  refine retA P hd ?_ (Or.inr (Or.inr (Or.inr (Or.inr ⟨rfl, rfl, hw⟩)))) hc hs q
  rcases ref_cases hw with rfl | ⟨z, rfl⟩ <;> rfl
/-- a boolean's return narrows to the last bit -/
theorem retZ {x : Int32} (P : Pos p l e R s m args below meth c Z own nm bytes maxL (some .boolean) n0 T h cells slots) (hd : decode bytes pc = .ok (.ireturn, 1)) (hx : x = 0 ∨ x = 1) (hc : cells ≤ R.cells) (hs : slots ≤ R.slots) (q : Q (some (.int x)) h) : Ends p e below s R n0 Q T (mkF m pc Ls (.int x :: st)) := by
  refine retA P hd ?_ (Or.inl ⟨rfl, Or.inr (Or.inl rfl), _, rfl⟩) hc hs q
  rcases hx with rfl | rfl <;> rfl
theorem retB {x : Int32} (P : Pos p l e R s m args below meth c Z own nm bytes maxL (some .byte) n0 T h cells slots) (hd : decode bytes pc = .ok (.ireturn, 1)) (hx : x.toInt8.toInt32 = x) (hc : cells ≤ R.cells) (hs : slots ≤ R.slots) (q : Q (some (.int x)) h) : Ends p e below s R n0 Q T (mkF m pc Ls (.int x :: st)) :=
  retA P hd (by show Value.int x.toInt8.toInt32 = Value.int x; rw [hx]) (Or.inl ⟨rfl, Or.inr (Or.inr (Or.inl rfl)), _, rfl⟩) hc hs q
theorem iloadN (P : Pos p l e R s m args below meth c Z own nm bytes maxL ret n0 T h cells slots) {j : Fin 4} {v : Int32} (hd : decode bytes pc = .ok (.iload_n j, 1)) (hl : Ls[j.val]? = some (.val (.int v))) (hn : n = pc + 1)
    (E : Ends p e below s R n0 Q T (mkF m n Ls (.int v :: st))) : Ends p e below s R n0 Q T (mkF m pc Ls st) := by
  subst hn; exact E.via fun t k => XS.iloadN P.here P.hx rfl (hb P.code hd) hl k
theorem iload (P : Pos p l e R s m args below meth c Z own nm bytes maxL ret n0 T h cells slots) {j : Nat} {v : Int32} (hd : decode bytes pc = .ok (.iload j, 2)) (hl : Ls[j]? = some (.val (.int v))) (hn : n = pc + 2)
    (E : Ends p e below s R n0 Q T (mkF m n Ls (.int v :: st))) : Ends p e below s R n0 Q T (mkF m pc Ls st) := by
  subst hn; exact E.via fun t k => XS.iload P.here P.hx rfl (hb P.code hd) hl k
theorem istoreN (P : Pos p l e R s m args below meth c Z own nm bytes maxL ret n0 T h cells slots) {j : Fin 4} {v : Int32} {l' : Array Slot} (hd : decode bytes pc = .ok (.istore_n j, 1)) (hl : storeLocals Ls j.val (.int v) = some l') (hn : n = pc + 1)
    (E : Ends p e below s R n0 Q T (mkF m n l' st)) : Ends p e below s R n0 Q T (mkF m pc Ls (.int v :: st)) := by
  subst hn; exact E.via fun t k => XS.istoreN P.here P.hx rfl (hb P.code hd) rfl hl k
theorem istore (P : Pos p l e R s m args below meth c Z own nm bytes maxL ret n0 T h cells slots) {j : Nat} {v : Int32} {l' : Array Slot} (hd : decode bytes pc = .ok (.istore j, 2)) (hl : storeLocals Ls j (.int v) = some l') (hn : n = pc + 2)
    (E : Ends p e below s R n0 Q T (mkF m n l' st)) : Ends p e below s R n0 Q T (mkF m pc Ls (.int v :: st)) := by
  subst hn; exact E.via fun t k => XS.istore P.here P.hx rfl (hb P.code hd) rfl hl k
theorem lloadN (P : Pos p l e R s m args below meth c Z own nm bytes maxL ret n0 T h cells slots) {j : Fin 4} {v : Int64} (hd : decode bytes pc = .ok (.lload_n j, 1)) (hl : Ls[j.val]? = some (.val (.long v))) (hn : n = pc + 1)
    (E : Ends p e below s R n0 Q T (mkF m n Ls (.long v :: st))) : Ends p e below s R n0 Q T (mkF m pc Ls st) := by
  subst hn; exact E.via fun t k => XS.lloadN P.here P.hx rfl (hb P.code hd) hl k
theorem lload (P : Pos p l e R s m args below meth c Z own nm bytes maxL ret n0 T h cells slots) {j : Nat} {v : Int64} (hd : decode bytes pc = .ok (.lload j, 2)) (hl : Ls[j]? = some (.val (.long v))) (hn : n = pc + 2)
    (E : Ends p e below s R n0 Q T (mkF m n Ls (.long v :: st))) : Ends p e below s R n0 Q T (mkF m pc Ls st) := by
  subst hn; exact E.via fun t k => XS.lload P.here P.hx rfl (hb P.code hd) hl k
theorem lstoreN (P : Pos p l e R s m args below meth c Z own nm bytes maxL ret n0 T h cells slots) {j : Fin 4} {v : Int64} {l' : Array Slot} (hd : decode bytes pc = .ok (.lstore_n j, 1)) (hl : storeLocals Ls j.val (.long v) = some l') (hn : n = pc + 1)
    (E : Ends p e below s R n0 Q T (mkF m n l' st)) : Ends p e below s R n0 Q T (mkF m pc Ls (.long v :: st)) := by
  subst hn; exact E.via fun t k => XS.lstoreN P.here P.hx rfl (hb P.code hd) rfl hl k
theorem lstore (P : Pos p l e R s m args below meth c Z own nm bytes maxL ret n0 T h cells slots) {j : Nat} {v : Int64} {l' : Array Slot} (hd : decode bytes pc = .ok (.lstore j, 2)) (hl : storeLocals Ls j (.long v) = some l') (hn : n = pc + 2)
    (E : Ends p e below s R n0 Q T (mkF m n l' st)) : Ends p e below s R n0 Q T (mkF m pc Ls (.long v :: st)) := by
  subst hn; exact E.via fun t k => XS.lstore P.here P.hx rfl (hb P.code hd) rfl hl k
theorem aloadN (P : Pos p l e R s m args below meth c Z own nm bytes maxL ret n0 T h cells slots) {j : Fin 4} {v : Value} (hd : decode bytes pc = .ok (.aload_n j, 1)) (hl : Ls[j.val]? = some (.val v)) (hv : v.isRef = true) (hn : n = pc + 1)
    (E : Ends p e below s R n0 Q T (mkF m n Ls (v :: st))) : Ends p e below s R n0 Q T (mkF m pc Ls st) := by
  subst hn; exact E.via fun t k => XS.aloadN P.here P.hx rfl (hb P.code hd) hl hv k
theorem aload (P : Pos p l e R s m args below meth c Z own nm bytes maxL ret n0 T h cells slots) {j : Nat} {v : Value} (hd : decode bytes pc = .ok (.aload j, 2)) (hl : Ls[j]? = some (.val v)) (hv : v.isRef = true) (hn : n = pc + 2)
    (E : Ends p e below s R n0 Q T (mkF m n Ls (v :: st))) : Ends p e below s R n0 Q T (mkF m pc Ls st) := by
  subst hn; exact E.via fun t k => XS.aload P.here P.hx rfl (hb P.code hd) hl hv k
theorem astoreN (P : Pos p l e R s m args below meth c Z own nm bytes maxL ret n0 T h cells slots) {j : Fin 4} {v : Value} {l' : Array Slot} (hd : decode bytes pc = .ok (.astore_n j, 1)) (hv : v.isRef = true) (hl : storeLocals Ls j.val v = some l') (hn : n = pc + 1)
    (E : Ends p e below s R n0 Q T (mkF m n l' st)) : Ends p e below s R n0 Q T (mkF m pc Ls (v :: st)) := by
  subst hn; exact E.via fun t k => XS.astoreN P.here P.hx rfl (hb P.code hd) rfl hv hl k
theorem astore (P : Pos p l e R s m args below meth c Z own nm bytes maxL ret n0 T h cells slots) {j : Nat} {v : Value} {l' : Array Slot} (hd : decode bytes pc = .ok (.astore j, 2)) (hv : v.isRef = true) (hl : storeLocals Ls j v = some l') (hn : n = pc + 2)
    (E : Ends p e below s R n0 Q T (mkF m n l' st)) : Ends p e below s R n0 Q T (mkF m pc Ls (v :: st)) := by
  subst hn; exact E.via fun t k => XS.astore P.here P.hx rfl (hb P.code hd) rfl hv hl k
theorem iconst (P : Pos p l e R s m args below meth c Z own nm bytes maxL ret n0 T h cells slots) {i : Int} (hd : decode bytes pc = .ok (.iconst i, 1)) {x : Int32} (hx : x = Int32.ofInt i) (hn : n = pc + 1)
    (E : Ends p e below s R n0 Q T (mkF m n Ls (.int x :: st))) : Ends p e below s R n0 Q T (mkF m pc Ls st) := by
  subst hn; exact E.via fun t k => XS.iconst P.here P.hx rfl (hb P.code hd) (by subst hx; exact k)
theorem bipush (P : Pos p l e R s m args below meth c Z own nm bytes maxL ret n0 T h cells slots) {i : Int} (hd : decode bytes pc = .ok (.bipush i, 2)) {x : Int32} (hx : x = (Int8.ofInt i).toInt32) (hn : n = pc + 2)
    (E : Ends p e below s R n0 Q T (mkF m n Ls (.int x :: st))) : Ends p e below s R n0 Q T (mkF m pc Ls st) := by
  subst hn; exact E.via fun t k => XS.bipush P.here P.hx rfl (hb P.code hd) (by subst hx; exact k)
theorem sipush (P : Pos p l e R s m args below meth c Z own nm bytes maxL ret n0 T h cells slots) {i : Int} (hd : decode bytes pc = .ok (.sipush i, 3)) {x : Int32} (hx : x = (Int16.ofInt i).toInt32) (hn : n = pc + 3)
    (E : Ends p e below s R n0 Q T (mkF m n Ls (.int x :: st))) : Ends p e below s R n0 Q T (mkF m pc Ls st) := by
  subst hn; exact E.via fun t k => XS.sipush P.here P.hx rfl (hb P.code hd) (by subst hx; exact k)
theorem lconst (P : Pos p l e R s m args below meth c Z own nm bytes maxL ret n0 T h cells slots) {i : Fin 2} (hd : decode bytes pc = .ok (.lconst i, 1)) {x : Int64} (hx : x = Int64.ofNat i) (hn : n = pc + 1)
    (E : Ends p e below s R n0 Q T (mkF m n Ls (.long x :: st))) : Ends p e below s R n0 Q T (mkF m pc Ls st) := by
  subst hn; exact E.via fun t k => XS.lconst P.here P.hx rfl (hb P.code hd) (by subst hx; exact k)
theorem aconstNull (P : Pos p l e R s m args below meth c Z own nm bytes maxL ret n0 T h cells slots) (hd : decode bytes pc = .ok (.aconst_null, 1)) (hn : n = pc + 1)
    (E : Ends p e below s R n0 Q T (mkF m n Ls (.null :: st))) : Ends p e below s R n0 Q T (mkF m pc Ls st) := by
  subst hn; exact E.via fun t k => XS.aconstNull P.here P.hx rfl (hb P.code hd) k
theorem iadd (P : Pos p l e R s m args below meth c Z own nm bytes maxL ret n0 T h cells slots) {x y : Int32} (hd : decode bytes pc = .ok (.iadd, 1)) (hn : n = pc + 1)
    (E : Ends p e below s R n0 Q T (mkF m n Ls (.int (x + y) :: st))) : Ends p e below s R n0 Q T (mkF m pc Ls (.int y :: .int x :: st)) := by
  subst hn; exact E.via fun t k => XS.iadd P.here P.hx rfl (hb P.code hd) rfl k
theorem isub (P : Pos p l e R s m args below meth c Z own nm bytes maxL ret n0 T h cells slots) {x y : Int32} (hd : decode bytes pc = .ok (.isub, 1)) (hn : n = pc + 1)
    (E : Ends p e below s R n0 Q T (mkF m n Ls (.int (x - y) :: st))) : Ends p e below s R n0 Q T (mkF m pc Ls (.int y :: .int x :: st)) := by
  subst hn; exact E.via fun t k => XS.isub P.here P.hx rfl (hb P.code hd) rfl k
theorem imul (P : Pos p l e R s m args below meth c Z own nm bytes maxL ret n0 T h cells slots) {x y : Int32} (hd : decode bytes pc = .ok (.imul, 1)) (hn : n = pc + 1)
    (E : Ends p e below s R n0 Q T (mkF m n Ls (.int (x * y) :: st))) : Ends p e below s R n0 Q T (mkF m pc Ls (.int y :: .int x :: st)) := by
  subst hn; exact E.via fun t k => XS.imul P.here P.hx rfl (hb P.code hd) rfl k
theorem iand (P : Pos p l e R s m args below meth c Z own nm bytes maxL ret n0 T h cells slots) {x y : Int32} (hd : decode bytes pc = .ok (.iand, 1)) (hn : n = pc + 1)
    (E : Ends p e below s R n0 Q T (mkF m n Ls (.int (x &&& y) :: st))) : Ends p e below s R n0 Q T (mkF m pc Ls (.int y :: .int x :: st)) := by
  subst hn; exact E.via fun t k => XS.iand P.here P.hx rfl (hb P.code hd) rfl k
theorem ior (P : Pos p l e R s m args below meth c Z own nm bytes maxL ret n0 T h cells slots) {x y : Int32} (hd : decode bytes pc = .ok (.ior, 1)) (hn : n = pc + 1)
    (E : Ends p e below s R n0 Q T (mkF m n Ls (.int (x ||| y) :: st))) : Ends p e below s R n0 Q T (mkF m pc Ls (.int y :: .int x :: st)) := by
  subst hn; exact E.via fun t k => XS.ior P.here P.hx rfl (hb P.code hd) rfl k
theorem ixor (P : Pos p l e R s m args below meth c Z own nm bytes maxL ret n0 T h cells slots) {x y : Int32} (hd : decode bytes pc = .ok (.ixor, 1)) (hn : n = pc + 1)
    (E : Ends p e below s R n0 Q T (mkF m n Ls (.int (x ^^^ y) :: st))) : Ends p e below s R n0 Q T (mkF m pc Ls (.int y :: .int x :: st)) := by
  subst hn; exact E.via fun t k => XS.ixor P.here P.hx rfl (hb P.code hd) rfl k
theorem ladd (P : Pos p l e R s m args below meth c Z own nm bytes maxL ret n0 T h cells slots) {x y : Int64} (hd : decode bytes pc = .ok (.ladd, 1)) (hn : n = pc + 1)
    (E : Ends p e below s R n0 Q T (mkF m n Ls (.long (x + y) :: st))) : Ends p e below s R n0 Q T (mkF m pc Ls (.long y :: .long x :: st)) := by
  subst hn; exact E.via fun t k => XS.ladd P.here P.hx rfl (hb P.code hd) rfl k
theorem lsub (P : Pos p l e R s m args below meth c Z own nm bytes maxL ret n0 T h cells slots) {x y : Int64} (hd : decode bytes pc = .ok (.lsub, 1)) (hn : n = pc + 1)
    (E : Ends p e below s R n0 Q T (mkF m n Ls (.long (x - y) :: st))) : Ends p e below s R n0 Q T (mkF m pc Ls (.long y :: .long x :: st)) := by
  subst hn; exact E.via fun t k => XS.lsub P.here P.hx rfl (hb P.code hd) rfl k
theorem lmul (P : Pos p l e R s m args below meth c Z own nm bytes maxL ret n0 T h cells slots) {x y : Int64} (hd : decode bytes pc = .ok (.lmul, 1)) (hn : n = pc + 1)
    (E : Ends p e below s R n0 Q T (mkF m n Ls (.long (x * y) :: st))) : Ends p e below s R n0 Q T (mkF m pc Ls (.long y :: .long x :: st)) := by
  subst hn; exact E.via fun t k => XS.lmul P.here P.hx rfl (hb P.code hd) rfl k
theorem land (P : Pos p l e R s m args below meth c Z own nm bytes maxL ret n0 T h cells slots) {x y : Int64} (hd : decode bytes pc = .ok (.land, 1)) (hn : n = pc + 1)
    (E : Ends p e below s R n0 Q T (mkF m n Ls (.long (x &&& y) :: st))) : Ends p e below s R n0 Q T (mkF m pc Ls (.long y :: .long x :: st)) := by
  subst hn; exact E.via fun t k => XS.land P.here P.hx rfl (hb P.code hd) rfl k
theorem lor (P : Pos p l e R s m args below meth c Z own nm bytes maxL ret n0 T h cells slots) {x y : Int64} (hd : decode bytes pc = .ok (.lor, 1)) (hn : n = pc + 1)
    (E : Ends p e below s R n0 Q T (mkF m n Ls (.long (x ||| y) :: st))) : Ends p e below s R n0 Q T (mkF m pc Ls (.long y :: .long x :: st)) := by
  subst hn; exact E.via fun t k => XS.lor P.here P.hx rfl (hb P.code hd) rfl k
theorem lxor (P : Pos p l e R s m args below meth c Z own nm bytes maxL ret n0 T h cells slots) {x y : Int64} (hd : decode bytes pc = .ok (.lxor, 1)) (hn : n = pc + 1)
    (E : Ends p e below s R n0 Q T (mkF m n Ls (.long (x ^^^ y) :: st))) : Ends p e below s R n0 Q T (mkF m pc Ls (.long y :: .long x :: st)) := by
  subst hn; exact E.via fun t k => XS.lxor P.here P.hx rfl (hb P.code hd) rfl k
theorem ishl (P : Pos p l e R s m args below meth c Z own nm bytes maxL ret n0 T h cells slots) {x y : Int32} (hd : decode bytes pc = .ok (.ishl, 1)) (hn : n = pc + 1)
    (E : Ends p e below s R n0 Q T (mkF m n Ls (.int (x <<< (y &&& 31)) :: st))) : Ends p e below s R n0 Q T (mkF m pc Ls (.int y :: .int x :: st)) := by
  subst hn; exact E.via fun t k => XS.ishl P.here P.hx rfl (hb P.code hd) rfl k
theorem ishr (P : Pos p l e R s m args below meth c Z own nm bytes maxL ret n0 T h cells slots) {x y : Int32} (hd : decode bytes pc = .ok (.ishr, 1)) (hn : n = pc + 1)
    (E : Ends p e below s R n0 Q T (mkF m n Ls (.int (x >>> (y &&& 31)) :: st))) : Ends p e below s R n0 Q T (mkF m pc Ls (.int y :: .int x :: st)) := by
  subst hn; exact E.via fun t k => XS.ishr P.here P.hx rfl (hb P.code hd) rfl k
theorem iushr (P : Pos p l e R s m args below meth c Z own nm bytes maxL ret n0 T h cells slots) {x y : Int32} (hd : decode bytes pc = .ok (.iushr, 1)) (hn : n = pc + 1)
    (E : Ends p e below s R n0 Q T (mkF m n Ls (.int ((x.toUInt32 >>> (y &&& 31).toUInt32).toInt32) :: st))) : Ends p e below s R n0 Q T (mkF m pc Ls (.int y :: .int x :: st)) := by
  subst hn; exact E.via fun t k => XS.iushr P.here P.hx rfl (hb P.code hd) rfl k
theorem lshl (P : Pos p l e R s m args below meth c Z own nm bytes maxL ret n0 T h cells slots) {x : Int64} {y : Int32} (hd : decode bytes pc = .ok (.lshl, 1)) (hn : n = pc + 1)
    (E : Ends p e below s R n0 Q T (mkF m n Ls (.long (x <<< (y &&& 0x3f).toInt64) :: st))) : Ends p e below s R n0 Q T (mkF m pc Ls (.int y :: .long x :: st)) := by
  subst hn; exact E.via fun t k => XS.lshl P.here P.hx rfl (hb P.code hd) rfl k
theorem lshr (P : Pos p l e R s m args below meth c Z own nm bytes maxL ret n0 T h cells slots) {x : Int64} {y : Int32} (hd : decode bytes pc = .ok (.lshr, 1)) (hn : n = pc + 1)
    (E : Ends p e below s R n0 Q T (mkF m n Ls (.long (x >>> (y &&& 0x3f).toInt64) :: st))) : Ends p e below s R n0 Q T (mkF m pc Ls (.int y :: .long x :: st)) := by
  subst hn; exact E.via fun t k => XS.lshr P.here P.hx rfl (hb P.code hd) rfl k
theorem lushr (P : Pos p l e R s m args below meth c Z own nm bytes maxL ret n0 T h cells slots) {x : Int64} {y : Int32} (hd : decode bytes pc = .ok (.lushr, 1)) (hn : n = pc + 1)
    (E : Ends p e below s R n0 Q T (mkF m n Ls (.long ((x.toUInt64 >>> (y &&& 0x3f).toInt64.toUInt64).toInt64) :: st))) : Ends p e below s R n0 Q T (mkF m pc Ls (.int y :: .long x :: st)) := by
  subst hn; exact E.via fun t k => XS.lushr P.here P.hx rfl (hb P.code hd) rfl k
theorem idiv (P : Pos p l e R s m args below meth c Z own nm bytes maxL ret n0 T h cells slots) {x y : Int32} (hd : decode bytes pc = .ok (.idiv, 1)) (hy : y ≠ 0) (hn : n = pc + 1)
    (E : Ends p e below s R n0 Q T (mkF m n Ls (.int (x / y) :: st))) : Ends p e below s R n0 Q T (mkF m pc Ls (.int y :: .int x :: st)) := by
  subst hn; exact E.via fun t k => XS.idiv P.here P.hx rfl (hb P.code hd) rfl hy k
theorem irem (P : Pos p l e R s m args below meth c Z own nm bytes maxL ret n0 T h cells slots) {x y : Int32} (hd : decode bytes pc = .ok (.irem, 1)) (hy : y ≠ 0) (hn : n = pc + 1)
    (E : Ends p e below s R n0 Q T (mkF m n Ls (.int (x % y) :: st))) : Ends p e below s R n0 Q T (mkF m pc Ls (.int y :: .int x :: st)) := by
  subst hn; obtain ⟨_, X, -⟩ := P.stand; exact E.via fun t k => Jvm.RoadKit.iremM X P.hx rfl (hb P.code hd) rfl hy k
theorem ldiv (P : Pos p l e R s m args below meth c Z own nm bytes maxL ret n0 T h cells slots) {x y : Int64} (hd : decode bytes pc = .ok (.ldiv, 1)) (hy : y ≠ 0) (hn : n = pc + 1)
    (E : Ends p e below s R n0 Q T (mkF m n Ls (.long (x / y) :: st))) : Ends p e below s R n0 Q T (mkF m pc Ls (.long y :: .long x :: st)) := by
  subst hn; exact E.via fun t k => XS.ldiv P.here P.hx rfl (hb P.code hd) rfl hy k
theorem lrem (P : Pos p l e R s m args below meth c Z own nm bytes maxL ret n0 T h cells slots) {x y : Int64} (hd : decode bytes pc = .ok (.lrem, 1)) (hy : y ≠ 0) (hn : n = pc + 1)
    (E : Ends p e below s R n0 Q T (mkF m n Ls (.long (x - (x / y) * y) :: st))) : Ends p e below s R n0 Q T (mkF m pc Ls (.long y :: .long x :: st)) := by
  subst hn; exact E.via fun t k => XS.lrem P.here P.hx rfl (hb P.code hd) rfl hy k
theorem ineg (P : Pos p l e R s m args below meth c Z own nm bytes maxL ret n0 T h cells slots) {x : Int32} (hd : decode bytes pc = .ok (.ineg, 1)) (hn : n = pc + 1)
    (E : Ends p e below s R n0 Q T (mkF m n Ls (.int (-x) :: st))) : Ends p e below s R n0 Q T (mkF m pc Ls (.int x :: st)) := by
  subst hn; exact E.via fun t k => XS.ineg P.here P.hx rfl (hb P.code hd) rfl k
theorem lneg (P : Pos p l e R s m args below meth c Z own nm bytes maxL ret n0 T h cells slots) {x : Int64} (hd : decode bytes pc = .ok (.lneg, 1)) (hn : n = pc + 1)
    (E : Ends p e below s R n0 Q T (mkF m n Ls (.long (-x) :: st))) : Ends p e below s R n0 Q T (mkF m pc Ls (.long x :: st)) := by
  subst hn; exact E.via fun t k => XS.lneg P.here P.hx rfl (hb P.code hd) rfl k
theorem i2l (P : Pos p l e R s m args below meth c Z own nm bytes maxL ret n0 T h cells slots) {x : Int32} (hd : decode bytes pc = .ok (.i2l, 1)) (hn : n = pc + 1)
    (E : Ends p e below s R n0 Q T (mkF m n Ls (.long (x.toInt64) :: st))) : Ends p e below s R n0 Q T (mkF m pc Ls (.int x :: st)) := by
  subst hn; exact E.via fun t k => XS.i2l P.here P.hx rfl (hb P.code hd) rfl k
theorem l2i (P : Pos p l e R s m args below meth c Z own nm bytes maxL ret n0 T h cells slots) {x : Int64} (hd : decode bytes pc = .ok (.l2i, 1)) (hn : n = pc + 1)
    (E : Ends p e below s R n0 Q T (mkF m n Ls (.int (x.toInt32) :: st))) : Ends p e below s R n0 Q T (mkF m pc Ls (.long x :: st)) := by
  subst hn; exact E.via fun t k => XS.l2i P.here P.hx rfl (hb P.code hd) rfl k
theorem i2b (P : Pos p l e R s m args below meth c Z own nm bytes maxL ret n0 T h cells slots) {x : Int32} (hd : decode bytes pc = .ok (.i2b, 1)) (hn : n = pc + 1)
    (E : Ends p e below s R n0 Q T (mkF m n Ls (.int (x.toInt8.toInt32) :: st))) : Ends p e below s R n0 Q T (mkF m pc Ls (.int x :: st)) := by
  subst hn; exact E.via fun t k => XS.i2b P.here P.hx rfl (hb P.code hd) rfl k
theorem i2s (P : Pos p l e R s m args below meth c Z own nm bytes maxL ret n0 T h cells slots) {x : Int32} (hd : decode bytes pc = .ok (.i2s, 1)) (hn : n = pc + 1)
    (E : Ends p e below s R n0 Q T (mkF m n Ls (.int (x.toInt16.toInt32) :: st))) : Ends p e below s R n0 Q T (mkF m pc Ls (.int x :: st)) := by
  subst hn; exact E.via fun t k => XS.i2s P.here P.hx rfl (hb P.code hd) rfl k
theorem i2c (P : Pos p l e R s m args below meth c Z own nm bytes maxL ret n0 T h cells slots) {x : Int32} (hd : decode bytes pc = .ok (.i2c, 1)) (hn : n = pc + 1)
    (E : Ends p e below s R n0 Q T (mkF m n Ls (.int (x.toUInt32.toUInt16.toUInt32.toInt32) :: st))) : Ends p e below s R n0 Q T (mkF m pc Ls (.int x :: st)) := by
  subst hn; exact E.via fun t k => XS.i2c P.here P.hx rfl (hb P.code hd) rfl k
theorem lcmp (P : Pos p l e R s m args below meth c Z own nm bytes maxL ret n0 T h cells slots) {x y : Int64} (hd : decode bytes pc = .ok (.lcmp, 1)) (hn : n = pc + 1)
    (E : Ends p e below s R n0 Q T (mkF m n Ls (.int (lcmpW x y) :: st))) : Ends p e below s R n0 Q T (mkF m pc Ls (.long y :: .long x :: st)) := by
  subst hn; exact E.via fun t k => XS.lcmp P.here P.hx rfl (hb P.code hd) rfl k
theorem iinc (P : Pos p l e R s m args below meth c Z own nm bytes maxL ret n0 T h cells slots) {j : Nat} {cst : Int} {x : Int32} {l' : Array Slot} (hd : decode bytes pc = .ok (.iinc j cst, 3)) {y : Int32} (hl : Ls[j]? = some (.val (.int x))) (hy : y = Int32.ofInt cst) (hl' : storeLocals Ls j (.int (x + Int32.ofInt cst)) = some l') (hn : n = pc + 3)
    (E : Ends p e below s R n0 Q T (mkF m n l' st)) : Ends p e below s R n0 Q T (mkF m pc Ls st) := by
  subst hn; exact E.via fun t k => XS.iinc P.here P.hx rfl (hb P.code hd) hl hl' k
theorem dup (P : Pos p l e R s m args below meth c Z own nm bytes maxL ret n0 T h cells slots) {x : Value} (hd : decode bytes pc = .ok (.dup, 1)) (hc : x.category = 1) (hn : n = pc + 1)
    (E : Ends p e below s R n0 Q T (mkF m n Ls (x :: x :: st))) : Ends p e below s R n0 Q T (mkF m pc Ls (x :: st)) := by
  subst hn; exact E.via fun t k => XS.dup P.here P.hx rfl (hb P.code hd) rfl hc k
theorem dupX1 (P : Pos p l e R s m args below meth c Z own nm bytes maxL ret n0 T h cells slots) {x y : Value} (hd : decode bytes pc = .ok (.dup_x1, 1)) (hc : x.category = 1) (hc' : y.category = 1) (hn : n = pc + 1)
    (E : Ends p e below s R n0 Q T (mkF m n Ls (x :: y :: x :: st))) : Ends p e below s R n0 Q T (mkF m pc Ls (x :: y :: st)) := by
  subst hn; exact E.via fun t k => XS.dupX1 P.here P.hx rfl (hb P.code hd) rfl hc hc' k
theorem dupD (P : Pos p l e R s m args below meth c Z own nm bytes maxL ret n0 T h cells slots) {x y : Value} (hd : decode bytes pc = .ok (.dup2, 1)) (hc : x.category = 1) (hc' : y.category = 1) (hn : n = pc + 1)
    (E : Ends p e below s R n0 Q T (mkF m n Ls (x :: y :: x :: y :: st))) : Ends p e below s R n0 Q T (mkF m pc Ls (x :: y :: st)) := by
  subst hn; exact E.via fun t k => XT.dup2 P.here P.hx rfl (hb P.code hd) rfl hc hc' k
theorem popV (P : Pos p l e R s m args below meth c Z own nm bytes maxL ret n0 T h cells slots) {x : Value} (hd : decode bytes pc = .ok (.pop, 1)) (hc : x.category = 1) (hn : n = pc + 1)
    (E : Ends p e below s R n0 Q T (mkF m n Ls st)) : Ends p e below s R n0 Q T (mkF m pc Ls (x :: st)) := by
  subst hn; exact E.via fun t k => XS.pop P.here P.hx rfl (hb P.code hd) rfl hc k
theorem goto {o : Int} (P : Pos p l e R s m args below meth c Z own nm bytes maxL ret n0 T h cells slots) (hd : decode bytes pc = .ok (.goto o, 3)) (ho : 0 ≤ (pc : Int) + o ∧ ((pc : Int) + o).toNat = n) (E : Ends p e below s R n0 Q T (mkF m n Ls st)) : Ends p e below s R n0 Q T (mkF m pc Ls st) :=
  E.via fun t k => XS.goto P.here P.hx rfl (pc0 := pc) (pc' := n) rfl (hb P.code hd) ho.1 ho.2 k
theorem icmpB {cd : ClassFile.Cond} {o : Int} {x y : Int32} {n' : Nat} (P : Pos p l e R s m args below meth c Z own nm bytes maxL ret n0 T h cells slots) (hd : decode bytes pc = .ok (.if_icmp cd o, 3)) (ho : 0 ≤ (pc : Int) + o ∧ ((pc : Int) + o).toNat = n') (hn : n = pc + 3)
    (Et : if_icmp.holds cd x y = true → Ends p e below s R n0 Q T (mkF m n' Ls st)) (Ef : if_icmp.holds cd x y = false → Ends p e below s R n0 Q T (mkF m n Ls st)) : Ends p e below s R n0 Q T (mkF m pc Ls (.int y :: .int x :: st)) := by
  subst hn
  cases hq : if_icmp.holds cd x y with
  | true => exact (Et hq).via fun t k => XS.icmpYes P.here P.hx rfl (pc0 := pc) (pc' := n') rfl (hb P.code hd) rfl hq ho.1 ho.2 k
  | false => exact (Ef hq).via fun t k => XS.icmpNo P.here P.hx rfl (hb P.code hd) rfl hq k
theorem ifB {cd : ClassFile.Cond} {o : Int} {x : Int32} {n' : Nat} (P : Pos p l e R s m args below meth c Z own nm bytes maxL ret n0 T h cells slots) (hd : decode bytes pc = .ok (.ifCond cd o, 3)) (ho : 0 ≤ (pc : Int) + o ∧ ((pc : Int) + o).toNat = n') (hn : n = pc + 3)
    (Et : ifCond.holds cd x = true → Ends p e below s R n0 Q T (mkF m n' Ls st)) (Ef : ifCond.holds cd x = false → Ends p e below s R n0 Q T (mkF m n Ls st)) : Ends p e below s R n0 Q T (mkF m pc Ls (.int x :: st)) := by
  subst hn
  cases hq : ifCond.holds cd x with
  | true => exact (Et hq).via fun t k => XS.ifYes P.here P.hx rfl (pc0 := pc) (pc' := n') rfl (hb P.code hd) rfl hq ho.1 ho.2 k
  | false => exact (Ef hq).via fun t k => XS.ifNo P.here P.hx rfl (hb P.code hd) rfl hq k
theorem acmpB {cd : ACond} {o : Int} {x y : Value} {n' : Nat} (P : Pos p l e R s m args below meth c Z own nm bytes maxL ret n0 T h cells slots) (hd : decode bytes pc = .ok (.if_acmp cd o, 3)) (h1 : x.isRef = true) (h2 : y.isRef = true) (ho : 0 ≤ (pc : Int) + o ∧ ((pc : Int) + o).toNat = n') (hn : n = pc + 3)
    (Et : acV cd (decide (x = y)) = true → Ends p e below s R n0 Q T (mkF m n' Ls st)) (Ef : acV cd (decide (x = y)) = false → Ends p e below s R n0 Q T (mkF m n Ls st)) : Ends p e below s R n0 Q T (mkF m pc Ls (y :: x :: st)) := by
  subst hn
  obtain ⟨_, X, -⟩ := P.stand
  cases hq : acV cd (decide (x = y)) with
  | true => exact (Et hq).via fun t k => Jvm.RoadKit.acmp (g := mkF m pc Ls (y :: x :: st)) X P.hx rfl h1 h2 (pc0 := pc) (pc' := n') (same := decide (x = y)) rfl (hb P.code hd) rfl rfl ho.1 (by rw [hq]; simp [ho.2]) k
  | false => exact (Ef hq).via fun t k => Jvm.RoadKit.acmp (g := mkF m pc Ls (y :: x :: st)) X P.hx rfl h1 h2 (pc0 := pc) (pc' := pc + 3) (same := decide (x = y)) rfl (hb P.code hd) rfl rfl ho.1 (by rw [hq]; simp) k
/-! what the conditions say, in numbers -/
def cP (cd : ClassFile.Cond) (x y : Int) : Prop := match cd with | .eq => x = y | .ne => ¬ x = y | .lt => x < y | .ge => y ≤ x | .gt => y < x | .le => x ≤ y
theorem ii {cd : ClassFile.Cond} {x y : Int32} {b : Bool} (q : if_icmp.holds cd x y = b) : cP cd x.toInt y.toInt ↔ b = true := by
  subst q; cases cd <;> simp [cP, if_icmp.holds, Int32.lt_iff_toInt_lt, Int32.le_iff_toInt_le, Int32.toInt_inj]
theorem i0 {cd : ClassFile.Cond} {x : Int32} {b : Bool} (q : ifCond.holds cd x = b) : cP cd x.toInt 0 ↔ b = true := ii ((if0 cd x).symm.trans q)
theorem l0 {cd : ClassFile.Cond} {x y : Int64} {b : Bool} (q : ifCond.holds cd (lcmpW x y) = b) : cP cd x.toInt y.toInt ↔ b = true := by
  have h1 := i0 q
  obtain ⟨c1, c2, c3⟩ := c_lcmp x y
  rw [← h1]
  cases cd <;> simp only [cP] <;> (rcases Int.lt_trichotomy x.toInt y.toInt with g | g | g) <;> first | (have := c1 g; omega) | (have := c2 g; omega) | (have := c3 g; omega)
theorem icmp_eq {o : Int} {x y : Int32} {n' : Nat} (P : Pos p l e R s m args below meth c Z own nm bytes maxL ret n0 T h cells slots) (hd : decode bytes pc = .ok (.if_icmp .eq o, 3)) (ho : 0 ≤ (pc : Int) + o ∧ ((pc : Int) + o).toNat = n') (hn : n = pc + 3)
    (Et : x.toInt = y.toInt → Ends p e below s R n0 Q T (mkF m n' Ls st)) (Ef : ¬ x.toInt = y.toInt → Ends p e below s R n0 Q T (mkF m n Ls st)) : Ends p e below s R n0 Q T (mkF m pc Ls (.int y :: .int x :: st)) :=
  icmpB P hd ho hn (fun q => Et (by have := ii q; simp only [cP, iff_true] at this; exact this)) (fun q => Ef (by have := ii q; simp only [cP, Bool.false_eq_true, iff_false] at this; omega))
theorem if0_eq {o : Int} {x : Int32} {n' : Nat} (P : Pos p l e R s m args below meth c Z own nm bytes maxL ret n0 T h cells slots) (hd : decode bytes pc = .ok (.ifCond .eq o, 3)) (ho : 0 ≤ (pc : Int) + o ∧ ((pc : Int) + o).toNat = n') (hn : n = pc + 3)
    (Et : x.toInt = 0 → Ends p e below s R n0 Q T (mkF m n' Ls st)) (Ef : ¬ x.toInt = 0 → Ends p e below s R n0 Q T (mkF m n Ls st)) : Ends p e below s R n0 Q T (mkF m pc Ls (.int x :: st)) :=
  ifB P hd ho hn (fun q => Et (by have := i0 q; simp only [cP, iff_true] at this; exact this)) (fun q => Ef (by have := i0 q; simp only [cP, Bool.false_eq_true, iff_false] at this; omega))
theorem ifl_eq {o : Int} {x y : Int64} {n' : Nat} (P : Pos p l e R s m args below meth c Z own nm bytes maxL ret n0 T h cells slots) (hd : decode bytes pc = .ok (.ifCond .eq o, 3)) (ho : 0 ≤ (pc : Int) + o ∧ ((pc : Int) + o).toNat = n') (hn : n = pc + 3)
    (Et : x.toInt = y.toInt → Ends p e below s R n0 Q T (mkF m n' Ls st)) (Ef : ¬ x.toInt = y.toInt → Ends p e below s R n0 Q T (mkF m n Ls st)) : Ends p e below s R n0 Q T (mkF m pc Ls (.int (lcmpW x y) :: st)) :=
  ifB P hd ho hn (fun q => Et (by have := l0 q; simp only [cP, iff_true] at this; exact this)) (fun q => Ef (by have := l0 q; simp only [cP, Bool.false_eq_true, iff_false] at this; omega))
theorem icmp_ne {o : Int} {x y : Int32} {n' : Nat} (P : Pos p l e R s m args below meth c Z own nm bytes maxL ret n0 T h cells slots) (hd : decode bytes pc = .ok (.if_icmp .ne o, 3)) (ho : 0 ≤ (pc : Int) + o ∧ ((pc : Int) + o).toNat = n') (hn : n = pc + 3)
    (Et : ¬ x.toInt = y.toInt → Ends p e below s R n0 Q T (mkF m n' Ls st)) (Ef : x.toInt = y.toInt → Ends p e below s R n0 Q T (mkF m n Ls st)) : Ends p e below s R n0 Q T (mkF m pc Ls (.int y :: .int x :: st)) :=
  icmpB P hd ho hn (fun q => Et (by have := ii q; simp only [cP, iff_true] at this; exact this)) (fun q => Ef (by have := ii q; simp only [cP, Bool.false_eq_true, iff_false] at this; omega))
theorem if0_ne {o : Int} {x : Int32} {n' : Nat} (P : Pos p l e R s m args below meth c Z own nm bytes maxL ret n0 T h cells slots) (hd : decode bytes pc = .ok (.ifCond .ne o, 3)) (ho : 0 ≤ (pc : Int) + o ∧ ((pc : Int) + o).toNat = n') (hn : n = pc + 3)
    (Et : ¬ x.toInt = 0 → Ends p e below s R n0 Q T (mkF m n' Ls st)) (Ef : x.toInt = 0 → Ends p e below s R n0 Q T (mkF m n Ls st)) : Ends p e below s R n0 Q T (mkF m pc Ls (.int x :: st)) :=
  ifB P hd ho hn (fun q => Et (by have := i0 q; simp only [cP, iff_true] at this; exact this)) (fun q => Ef (by have := i0 q; simp only [cP, Bool.false_eq_true, iff_false] at this; omega))
theorem ifl_ne {o : Int} {x y : Int64} {n' : Nat} (P : Pos p l e R s m args below meth c Z own nm bytes maxL ret n0 T h cells slots) (hd : decode bytes pc = .ok (.ifCond .ne o, 3)) (ho : 0 ≤ (pc : Int) + o ∧ ((pc : Int) + o).toNat = n') (hn : n = pc + 3)
    (Et : ¬ x.toInt = y.toInt → Ends p e below s R n0 Q T (mkF m n' Ls st)) (Ef : x.toInt = y.toInt → Ends p e below s R n0 Q T (mkF m n Ls st)) : Ends p e below s R n0 Q T (mkF m pc Ls (.int (lcmpW x y) :: st)) :=
  ifB P hd ho hn (fun q => Et (by have := l0 q; simp only [cP, iff_true] at this; exact this)) (fun q => Ef (by have := l0 q; simp only [cP, Bool.false_eq_true, iff_false] at this; omega))
theorem icmp_lt {o : Int} {x y : Int32} {n' : Nat} (P : Pos p l e R s m args below meth c Z own nm bytes maxL ret n0 T h cells slots) (hd : decode bytes pc = .ok (.if_icmp .lt o, 3)) (ho : 0 ≤ (pc : Int) + o ∧ ((pc : Int) + o).toNat = n') (hn : n = pc + 3)
    (Et : x.toInt < y.toInt → Ends p e below s R n0 Q T (mkF m n' Ls st)) (Ef : y.toInt ≤ x.toInt → Ends p e below s R n0 Q T (mkF m n Ls st)) : Ends p e below s R n0 Q T (mkF m pc Ls (.int y :: .int x :: st)) :=
  icmpB P hd ho hn (fun q => Et (by have := ii q; simp only [cP, iff_true] at this; exact this)) (fun q => Ef (by have := ii q; simp only [cP, Bool.false_eq_true, iff_false] at this; omega))
theorem if0_lt {o : Int} {x : Int32} {n' : Nat} (P : Pos p l e R s m args below meth c Z own nm bytes maxL ret n0 T h cells slots) (hd : decode bytes pc = .ok (.ifCond .lt o, 3)) (ho : 0 ≤ (pc : Int) + o ∧ ((pc : Int) + o).toNat = n') (hn : n = pc + 3)
    (Et : x.toInt < 0 → Ends p e below s R n0 Q T (mkF m n' Ls st)) (Ef : 0 ≤ x.toInt → Ends p e below s R n0 Q T (mkF m n Ls st)) : Ends p e below s R n0 Q T (mkF m pc Ls (.int x :: st)) :=
  ifB P hd ho hn (fun q => Et (by have := i0 q; simp only [cP, iff_true] at this; exact this)) (fun q => Ef (by have := i0 q; simp only [cP, Bool.false_eq_true, iff_false] at this; omega))
theorem ifl_lt {o : Int} {x y : Int64} {n' : Nat} (P : Pos p l e R s m args below meth c Z own nm bytes maxL ret n0 T h cells slots) (hd : decode bytes pc = .ok (.ifCond .lt o, 3)) (ho : 0 ≤ (pc : Int) + o ∧ ((pc : Int) + o).toNat = n') (hn : n = pc + 3)
    (Et : x.toInt < y.toInt → Ends p e below s R n0 Q T (mkF m n' Ls st)) (Ef : y.toInt ≤ x.toInt → Ends p e below s R n0 Q T (mkF m n Ls st)) : Ends p e below s R n0 Q T (mkF m pc Ls (.int (lcmpW x y) :: st)) :=
  ifB P hd ho hn (fun q => Et (by have := l0 q; simp only [cP, iff_true] at this; exact this)) (fun q => Ef (by have := l0 q; simp only [cP, Bool.false_eq_true, iff_false] at this; omega))
theorem icmp_ge {o : Int} {x y : Int32} {n' : Nat} (P : Pos p l e R s m args below meth c Z own nm bytes maxL ret n0 T h cells slots) (hd : decode bytes pc = .ok (.if_icmp .ge o, 3)) (ho : 0 ≤ (pc : Int) + o ∧ ((pc : Int) + o).toNat = n') (hn : n = pc + 3)
    (Et : y.toInt ≤ x.toInt → Ends p e below s R n0 Q T (mkF m n' Ls st)) (Ef : x.toInt < y.toInt → Ends p e below s R n0 Q T (mkF m n Ls st)) : Ends p e below s R n0 Q T (mkF m pc Ls (.int y :: .int x :: st)) :=
  icmpB P hd ho hn (fun q => Et (by have := ii q; simp only [cP, iff_true] at this; exact this)) (fun q => Ef (by have := ii q; simp only [cP, Bool.false_eq_true, iff_false] at this; omega))
theorem if0_ge {o : Int} {x : Int32} {n' : Nat} (P : Pos p l e R s m args below meth c Z own nm bytes maxL ret n0 T h cells slots) (hd : decode bytes pc = .ok (.ifCond .ge o, 3)) (ho : 0 ≤ (pc : Int) + o ∧ ((pc : Int) + o).toNat = n') (hn : n = pc + 3)
    (Et : 0 ≤ x.toInt → Ends p e below s R n0 Q T (mkF m n' Ls st)) (Ef : x.toInt < 0 → Ends p e below s R n0 Q T (mkF m n Ls st)) : Ends p e below s R n0 Q T (mkF m pc Ls (.int x :: st)) :=
  ifB P hd ho hn (fun q => Et (by have := i0 q; simp only [cP, iff_true] at this; exact this)) (fun q => Ef (by have := i0 q; simp only [cP, Bool.false_eq_true, iff_false] at this; omega))
theorem ifl_ge {o : Int} {x y : Int64} {n' : Nat} (P : Pos p l e R s m args below meth c Z own nm bytes maxL ret n0 T h cells slots) (hd : decode bytes pc = .ok (.ifCond .ge o, 3)) (ho : 0 ≤ (pc : Int) + o ∧ ((pc : Int) + o).toNat = n') (hn : n = pc + 3)
    (Et : y.toInt ≤ x.toInt → Ends p e below s R n0 Q T (mkF m n' Ls st)) (Ef : x.toInt < y.toInt → Ends p e below s R n0 Q T (mkF m n Ls st)) : Ends p e below s R n0 Q T (mkF m pc Ls (.int (lcmpW x y) :: st)) :=
  ifB P hd ho hn (fun q => Et (by have := l0 q; simp only [cP, iff_true] at this; exact this)) (fun q => Ef (by have := l0 q; simp only [cP, Bool.false_eq_true, iff_false] at this; omega))
theorem icmp_gt {o : Int} {x y : Int32} {n' : Nat} (P : Pos p l e R s m args below meth c Z own nm bytes maxL ret n0 T h cells slots) (hd : decode bytes pc = .ok (.if_icmp .gt o, 3)) (ho : 0 ≤ (pc : Int) + o ∧ ((pc : Int) + o).toNat = n') (hn : n = pc + 3)
    (Et : y.toInt < x.toInt → Ends p e below s R n0 Q T (mkF m n' Ls st)) (Ef : x.toInt ≤ y.toInt → Ends p e below s R n0 Q T (mkF m n Ls st)) : Ends p e below s R n0 Q T (mkF m pc Ls (.int y :: .int x :: st)) :=
  icmpB P hd ho hn (fun q => Et (by have := ii q; simp only [cP, iff_true] at this; exact this)) (fun q => Ef (by have := ii q; simp only [cP, Bool.false_eq_true, iff_false] at this; omega))
theorem if0_gt {o : Int} {x : Int32} {n' : Nat} (P : Pos p l e R s m args below meth c Z own nm bytes maxL ret n0 T h cells slots) (hd : decode bytes pc = .ok (.ifCond .gt o, 3)) (ho : 0 ≤ (pc : Int) + o ∧ ((pc : Int) + o).toNat = n') (hn : n = pc + 3)
    (Et : 0 < x.toInt → Ends p e below s R n0 Q T (mkF m n' Ls st)) (Ef : x.toInt ≤ 0 → Ends p e below s R n0 Q T (mkF m n Ls st)) : Ends p e below s R n0 Q T (mkF m pc Ls (.int x :: st)) :=
  ifB P hd ho hn (fun q => Et (by have := i0 q; simp only [cP, iff_true] at this; exact this)) (fun q => Ef (by have := i0 q; simp only [cP, Bool.false_eq_true, iff_false] at this; omega))
theorem ifl_gt {o : Int} {x y : Int64} {n' : Nat} (P : Pos p l e R s m args below meth c Z own nm bytes maxL ret n0 T h cells slots) (hd : decode bytes pc = .ok (.ifCond .gt o, 3)) (ho : 0 ≤ (pc : Int) + o ∧ ((pc : Int) + o).toNat = n') (hn : n = pc + 3)
    (Et : y.toInt < x.toInt → Ends p e below s R n0 Q T (mkF m n' Ls st)) (Ef : x.toInt ≤ y.toInt → Ends p e below s R n0 Q T (mkF m n Ls st)) : Ends p e below s R n0 Q T (mkF m pc Ls (.int (lcmpW x y) :: st)) :=
  ifB P hd ho hn (fun q => Et (by have := l0 q; simp only [cP, iff_true] at this; exact this)) (fun q => Ef (by have := l0 q; simp only [cP, Bool.false_eq_true, iff_false] at this; omega))
theorem icmp_le {o : Int} {x y : Int32} {n' : Nat} (P : Pos p l e R s m args below meth c Z own nm bytes maxL ret n0 T h cells slots) (hd : decode bytes pc = .ok (.if_icmp .le o, 3)) (ho : 0 ≤ (pc : Int) + o ∧ ((pc : Int) + o).toNat = n') (hn : n = pc + 3)
    (Et : x.toInt ≤ y.toInt → Ends p e below s R n0 Q T (mkF m n' Ls st)) (Ef : y.toInt < x.toInt → Ends p e below s R n0 Q T (mkF m n Ls st)) : Ends p e below s R n0 Q T (mkF m pc Ls (.int y :: .int x :: st)) :=
  icmpB P hd ho hn (fun q => Et (by have := ii q; simp only [cP, iff_true] at this; exact this)) (fun q => Ef (by have := ii q; simp only [cP, Bool.false_eq_true, iff_false] at this; omega))
theorem if0_le {o : Int} {x : Int32} {n' : Nat} (P : Pos p l e R s m args below meth c Z own nm bytes maxL ret n0 T h cells slots) (hd : decode bytes pc = .ok (.ifCond .le o, 3)) (ho : 0 ≤ (pc : Int) + o ∧ ((pc : Int) + o).toNat = n') (hn : n = pc + 3)
    (Et : x.toInt ≤ 0 → Ends p e below s R n0 Q T (mkF m n' Ls st)) (Ef : 0 < x.toInt → Ends p e below s R n0 Q T (mkF m n Ls st)) : Ends p e below s R n0 Q T (mkF m pc Ls (.int x :: st)) :=
  ifB P hd ho hn (fun q => Et (by have := i0 q; simp only [cP, iff_true] at this; exact this)) (fun q => Ef (by have := i0 q; simp only [cP, Bool.false_eq_true, iff_false] at this; omega))
theorem ifl_le {o : Int} {x y : Int64} {n' : Nat} (P : Pos p l e R s m args below meth c Z own nm bytes maxL ret n0 T h cells slots) (hd : decode bytes pc = .ok (.ifCond .le o, 3)) (ho : 0 ≤ (pc : Int) + o ∧ ((pc : Int) + o).toNat = n') (hn : n = pc + 3)
    (Et : x.toInt ≤ y.toInt → Ends p e below s R n0 Q T (mkF m n' Ls st)) (Ef : y.toInt < x.toInt → Ends p e below s R n0 Q T (mkF m n Ls st)) : Ends p e below s R n0 Q T (mkF m pc Ls (.int (lcmpW x y) :: st)) :=
  ifB P hd ho hn (fun q => Et (by have := l0 q; simp only [cP, iff_true] at this; exact this)) (fun q => Ef (by have := l0 q; simp only [cP, Bool.false_eq_true, iff_false] at this; omega))
theorem aT {x y : Value} (q : acV .eq (decide (x = y)) = true) : x = y := by simpa [acV] using q
theorem aF {x y : Value} (q : acV .eq (decide (x = y)) = false) : ¬ x = y := by simpa [acV] using q
theorem nT {x y : Value} (q : acV .ne (decide (x = y)) = true) : ¬ x = y := by simpa [acV] using q
theorem nF {x y : Value} (q : acV .ne (decide (x = y)) = false) : x = y := by simpa [acV] using q
/-! constants, statics, fields, objects -/
theorem ldcI {index : Nat} {v : Int32} (P : Pos p l e R s m args below meth c Z own nm bytes maxL ret n0 T h cells slots) (hd : decode bytes pc = .ok (.ldc index, 2)) (w : (Cond.constant own index v).before a0 Z = true) (hn : n = pc + 2) (E : Ends p e below s R n0 Q T (mkF m n Ls (.int v :: st))) : Ends p e below s R n0 Q T (mkF m pc Ls st) := by
  subst hn; obtain ⟨_, X, -⟩ := P.stand
  exact E.via fun t k => X.ldcInt P.hx P.own' (mvT P.hZ w) (g := mkF m pc Ls st) rfl (hb P.code hd) t k
theorem ldc2J {index : Nat} {v : Int64} (P : Pos p l e R s m args below meth c Z own nm bytes maxL ret n0 T h cells slots) (hd : decode bytes pc = .ok (.ldc2_w index, 3)) (w : (Cond.constantLong own index v).before a0 Z = true) (hn : n = pc + 3) (E : Ends p e below s R n0 Q T (mkF m n Ls (.long v :: st))) : Ends p e below s R n0 Q T (mkF m pc Ls st) := by
  subst hn; obtain ⟨_, X, -⟩ := P.stand
  exact E.via fun t k => X.ldc2Long P.hx P.own' (mvT P.hZ w) (g := mkF m pc Ls st) rfl (hb P.code hd) t k
theorem getS {index : Nat} {O f d : String} {v : Value} (P : Pos p l e R s m args below meth c Z own nm bytes maxL ret n0 T h cells slots) (hd : decode bytes pc = .ok (.getstatic index, 3)) (w : (Cond.fieldLink own index O f d).before a0 Z = true) (F : Sta Z h O f d v) (hn : n = pc + 3)
    (E : ∀ T, Pos p l e R s m args below meth c Z own nm bytes maxL ret n0 T h cells slots → Ends p e below s R n0 Q T (mkF m n Ls (v :: st))) : Ends p e below s R n0 Q T (mkF m pc Ls st) := by
  subst hn; obtain ⟨_, X, N⟩ := P.stand
  obtain ⟨T', X', e', k⟩ := Jvm.RoadKit.getS (host := "") X P.hx P.hZ P.own' w Via.refl P.heap F (g := mkF m pc Ls st) rfl (hb P.code hd)
  exact (E T' (P.to X' N e')).via k
theorem getF {index : Nat} {O f d : String} {v : Value} {a : Addr} (P : Pos p l e R s m args below meth c Z own nm bytes maxL ret n0 T h cells slots) (hd : decode bytes pc = .ok (.getfield index, 3)) (w : (Cond.fieldLink own index O f d).before a0 Z = true) (F : Fld Z h a O f d v) (hn : n = pc + 3)
    (E : ∀ T, Pos p l e R s m args below meth c Z own nm bytes maxL ret n0 T h cells slots → Ends p e below s R n0 Q T (mkF m n Ls (v :: st))) : Ends p e below s R n0 Q T (mkF m pc Ls (.ref a :: st)) := by
  subst hn; obtain ⟨_, X, N⟩ := P.stand
  obtain ⟨T', X', e', k⟩ := Jvm.RoadKit.getF (host := "") X P.hx P.hZ P.own' (Or.inl w) Via.refl P.heap F (g := mkF m pc Ls (.ref a :: st)) rfl rfl (hb P.code hd)
  exact (E T' (P.to X' N e')).via k
theorem putF {index kk : Nat} {O f d C : String} {v old : Value} {a : Addr} {ty : FieldType} (P : Pos p l e R s m args below meth c Z own nm bytes maxL ret n0 T h cells slots) (hd : decode bytes pc = .ok (.putfield index, 3)) (w : (Cond.fieldLink own index O f d).before a0 Z = true) (F : Fld Z h a O f d old) (X0 : Exa Z h a C)
    (L : (Cond.lays C O f d).before a0 Z = true ∨ ((Cond.laysFinal C O f d).before a0 Z = true ∧ own = O ∧ nm = "<init>")) (wi : (Cond.instantiable C kk).before a0 Z = true) (hty : parseFieldDescriptor d = some ty) (hnw : narrow ty v = v) (hf : fits ty v = true) (ha : n0 ≤ a) (hn : n = pc + 3)
    (E : ∀ T h', Pos p l e R s m args below meth c Z own nm bytes maxL ret n0 T h' cells slots → Wr h h' a (Jvm.RoadKit.slotOf Z O f d) v → Ends p e below s R n0 Q T (mkF m n Ls st)) : Ends p e below s R n0 Q T (mkF m pc Ls (v :: .ref a :: st)) := by
  subst hn; obtain ⟨_, X, N⟩ := P.stand
  obtain ⟨T', h', X', e', W, k⟩ := Jvm.RoadKit.putF (host := "") X P.hx P.hZ P.own' (Or.inl w) Via.refl P.heap F X0 (L.imp id fun q => ⟨q.1, q.2.1, P.name.trans q.2.2⟩) wi hty hnw hf (g := mkF m pc Ls (v :: .ref a :: st)) rfl rfl (hb P.code hd)
  exact (E T' h' (P.to X' (Fr.snoc X' N ha) e') W).via k
theorem newO {index k : Nat} {C : String} (P : Pos p l e R s m args below meth c Z own nm bytes maxL ret n0 T h cells slots) (hd : decode bytes pc = .ok (.new index, 3)) (w : (Cond.classLink own index C).before a0 Z = true) (wi : (Cond.instantiable C k).before a0 Z = true) (wz : (Cond.initialized C).before a0 Z = true) (hc : cells + 1 ≤ R.cells) (hl : slots + k ≤ R.slots) (hn : n = pc + 3)
    (E : ∀ T h' a, Pos p l e R s m args below meth c Z own nm bytes maxL ret n0 T h' (cells + 1) (slots + k) → Ext h h' → a = h.size → n0 ≤ a → Exa Z h' a C → (∀ {O f d : String} {ty : FieldType}, Laid Z a0 C O f d → parseFieldDescriptor d = some ty → Fld Z h' a O f d (defaultValue ty)) → Ends p e below s R n0 Q T (mkF m n Ls (.ref a :: st))) : Ends p e below s R n0 Q T (mkF m pc Ls st) := by
  subst hn; obtain ⟨_, X, N⟩ := P.stand
  obtain ⟨T', h', X', e', Ex, A, D, -, kk⟩ := Jvm.RoadKit.newO X P.hx P.hZ P.own' w wi wz P.heap (g := mkF m pc Ls st) rfl (hb P.code hd) hc hl
  exact (E T' h' _ (P.to X' N e') Ex rfl P.low A D).via kk
theorem initO {index : Nat} {a : Addr} (P : Pos p l e R s m args below meth c Z own nm bytes maxL ret n0 T h cells slots) (hd : decode bytes pc = .ok (.invokespecial index, 3)) (w1 : (Cond.methodLink own index Lib.objectInit).before a0 Z = true) (w2 : (Cond.instanceMethod Lib.objectInit).before a0 Z = true) (w3 : (Cond.code Lib.objectInit ⟨#[0xb1]⟩ 1 none).before a0 Z = true) (hsz : Ls.size = maxL)
    (hf : 1 ≤ R.frames) (hl : (st.map fun v => v.category).sum + 12 ≤ R.locals) (hn : n = pc + 3) (E : ∀ T, Pos p l e R s m args below meth c Z own nm bytes maxL ret n0 T h cells slots → Ends p e below s R n0 Q T (mkF m n Ls st)) : Ends p e below s R n0 Q T (mkF m pc Ls (.ref a :: st)) := by
  subst hn; obtain ⟨_, X, N⟩ := P.stand
  obtain ⟨T', X', e', k⟩ := Jvm.RoadKit.initO X P.hx P.hZ P.own' w1 w2 w3 P.heap (g := mkF m pc Ls (.ref a :: st)) rfl (hsz.trans P.maxl.symm) rfl (hb P.code hd) hf (W := (st.map fun v => v.category).sum) (by show 2 * 0 + _ ≤ _; omega) hl
  exact (E T' (P.to X' N e')).via k
/-! arrays: a length and what each place holds -/
def AR (Z : State) (h : Heap) (a : Addr) (ty : FieldType) (k : Nat) (f : Nat → Value) : Prop := ∃ cl : Cell, Arr Z h a cl ty ∧ cl.slots.size = k ∧ k < 2 ^ 31 ∧ ∀ i, i < k → cl.slots[i]? = some (f i)
/-- one place changed -/
def ovr {α : Type} (g : Nat → α) (i : Nat) (x : α) : Nat → α := fun j => if j = i then x else g j
theorem ovr_at {α : Type} (g : Nat → α) (i : Nat) (x : α) : ovr g i x i = x := by simp [ovr]
theorem ovr_ne {α : Type} (g : Nat → α) {i j : Nat} (x : α) (q : j ≠ i) : ovr g i x j = g j := by simp [ovr, q]
abbrev ARI (Z : State) (h : Heap) (a : Addr) (ty : FieldType) (k : Nat) (g : Nat → Int32) : Prop := AR Z h a ty k (fun i => .int (g i))
abbrev ARJ (Z : State) (h : Heap) (a : Addr) (k : Nat) (g : Nat → Int64) : Prop := AR Z h a .long k (fun i => .long (g i))
variable {a b : Addr} {ty : FieldType} {k : Nat} {f : Nat → Value}
theorem AR.lt (A : AR Z h a ty k f) : a < h.size := by obtain ⟨_, B, -⟩ := A; exact B.lt
theorem AR.len (A : AR Z h a ty k f) : k < 2 ^ 31 := by obtain ⟨_, _, _, r, _⟩ := A; exact r
theorem AR.ext (A : AR Z h a ty k f) (E : Ext h h') : AR Z h' a ty k f := by obtain ⟨cl, B, r⟩ := A; exact ⟨cl, B.ext E, r⟩
theorem AR.other {sl : Nat} {v : Value} (A : AR Z h b ty k f) (W : Wr h h' a sl v) (q : b ≠ a) : AR Z h' b ty k f := by obtain ⟨cl, B, r⟩ := A; exact ⟨cl, B.other W q, r⟩
theorem AR.keep {ws : List Addr} (A : AR Z h a ty k f) (K : Keep h h' ws) (q : a ∉ ws) : AR Z h' a ty k f := by obtain ⟨cl, B, r⟩ := A; exact ⟨cl, ⟨K.2.1 a cl B.1 q, B.2⟩, r⟩
theorem AR.congr {g : Nat → Value} (A : AR Z h a ty k f) (q : ∀ i, i < k → f i = g i) : AR Z h a ty k g := by obtain ⟨cl, B, r1, r2, r3⟩ := A; exact ⟨cl, B, r1, r2, fun i hi => by rw [r3 i hi, q i hi]⟩
theorem AR.set {i : Nat} {v : Value} (A : AR Z h a ty k f) (W : Wr h h' a i v) : AR Z h' a ty k (ovr f i v) := by
  obtain ⟨cl, B, r1, r2, r3⟩ := A
  refine ⟨_, B.same W, by rw [sz_set]; exact r1, r2, fun j hj => ?_⟩
  by_cases u : j = i
  · subst u; simp [Cell.setSlot, r1, hj, ovr]
  · simp only [Cell.setSlot, ovr, if_neg u]
    rw [Array.getElem?_setIfInBounds_ne (Ne.symm u)]; exact r3 j hj
theorem ARI.set {g : Nat → Int32} {i : Nat} {x : Int32} (A : ARI Z h a ty k g) (W : Wr h h' a i (.int x)) : ARI Z h' a ty k (ovr g i x) := by
  refine (AR.set A W).congr fun j _ => ?_
  by_cases u : j = i <;> simp [ovr, u]
theorem ARJ.set {g : Nat → Int64} {i : Nat} {x : Int64} (A : ARJ Z h a k g) (W : Wr h h' a i (.long x)) : ARJ Z h' a k (ovr g i x) := by
  refine (AR.set A W).congr fun j _ => ?_
  by_cases u : j = i <;> simp [ovr, u]
theorem inA {j : Int32} {i : Nat} {cl : Cell} (q : j.toInt = i ∧ i < k) (e : cl.slots.size = k) : ¬ (j < 0 ∨ cl.slots.size ≤ j.toNatClampNeg) ∧ j.toNatClampNeg = i := by
  have e0 : (0 : Int32).toInt = 0 := rfl
  simp only [Int32.lt_iff_toInt_lt, Int32.toNatClampNeg, e, e0]; omega
theorem newP {aty : ArrayType} {x : Int32} {cap : Nat} (P : Pos p l e R s m args below meth c Z own nm bytes maxL ret n0 T h cells slots) (hd : decode bytes pc = .ok (.newarray aty, 2)) (w : (Cond.arrayClass (newarray.typeOf aty)).before a0 Z = true) (hx : x.toInt = k ∧ k ≤ cap) (hb' : cap * 8 ≤ 536870912) (hc : cells + 1 ≤ R.cells ∧ slots + cap ≤ R.slots) (hn : n = pc + 2)
    (E : ∀ T h' a, Pos p l e R s m args below meth c Z own nm bytes maxL ret n0 T h' (cells + 1) (slots + cap) → Ext h h' → a = h.size → n0 ≤ a → AR Z h' a (newarray.typeOf aty) k (fun _ => defaultValue (newarray.typeOf aty)) → Ends p e below s R n0 Q T (mkF m n Ls (.ref a :: st))) : Ends p e below s R n0 Q T (mkF m pc Ls (.int x :: st)) := by
  subst hn; obtain ⟨_, X, N⟩ := P.stand
  have e0 : (0 : Int32).toInt = 0 := rfl
  have q1 : ¬ x < 0 := by rw [Int32.lt_iff_toInt_lt, e0]; omega
  have q2 : x.toNatClampNeg = k := by simp only [Int32.toNatClampNeg]; omega
  obtain ⟨T', h', cA, X', e', Ex, A, kk⟩ := Jvm.RoadKit.newP X P.hx P.hZ w P.heap (g := mkF m pc Ls (.int x :: st)) rfl (hb P.code hd) rfl q1 (cap := cap) (by omega) hb' hc.1 hc.2
  refine (E T' h' _ (P.to X' N e') Ex rfl P.low ⟨_, A, (sz_new _ _ _).trans q2, by have := rng32 x; omega, fun i hi => ?_⟩).via kk
  rw [← q2] at hi
  simp [newA, hi]
theorem ldA {i : Instr} {j : Int32} {u : Nat} {v : Value} (P : Pos p l e R s m args below meth c Z own nm bytes maxL ret n0 T h cells slots) (hd : decode bytes pc = .ok (i, 1)) (A : AR Z h a ty k f) (hi : (i = .baload ∧ (ty = .byte ∨ ty = .boolean)) ∨ (i = .iaload ∧ ty = .int) ∨ (i = .laload ∧ ty = .long) ∨ (i = .caload ∧ ty = .char) ∨ (i = .aaload ∧ ty.isReference = true)) (hj : j.toInt = u ∧ u < k) (hv : v = f u) (hn : n = pc + 1)
    (E : Ends p e below s R n0 Q T (mkF m n Ls (v :: st))) : Ends p e below s R n0 Q T (mkF m pc Ls (.int j :: .ref a :: st)) := by
  subst hn hv; obtain ⟨_, X, N⟩ := P.stand
  obtain ⟨cl, B, r1, r2, r3⟩ := A
  obtain ⟨q1, q5⟩ := inA hj r1
  have q2 : cl.slots[j.toNatClampNeg]? = some (f u) := by rw [q5]; exact r3 _ hj.2
  have q3 : T.heap[a]? = some cl := by rw [P.heap]; exact B.1
  have q4 := State.isArrayOf_alike (T := s) P.hZ.alike B.2.1
  rcases hi with ⟨rfl, rfl | rfl⟩ | ⟨rfl, rfl⟩ | ⟨rfl, rfl⟩ | ⟨rfl, rfl⟩ | ⟨rfl, ht⟩
  · exact E.via fun t k => X.baloadBytes P.hx q3 q4 B.2.2 q1 q2 (g := mkF m pc Ls (.int j :: .ref a :: st)) rfl rfl (hb P.code hd) t k
  · exact E.via fun t k => X.baloadBooleans P.hx q3 q4 B.2.2 q1 q2 (g := mkF m pc Ls (.int j :: .ref a :: st)) rfl rfl (hb P.code hd) t k
  · exact E.via fun t k => X.iaload P.hx q3 q4 B.2.2 q1 q2 (g := mkF m pc Ls (.int j :: .ref a :: st)) rfl rfl (hb P.code hd) t k
  · exact E.via fun t k => X.laload P.hx q3 q4 B.2.2 q1 q2 (g := mkF m pc Ls (.int j :: .ref a :: st)) rfl rfl (hb P.code hd) t k
  · exact E.via fun t k => X.caload P.hx q3 q4 B.2.2 q1 q2 (g := mkF m pc Ls (.int j :: .ref a :: st)) rfl rfl (hb P.code hd) t k
  · exact E.via fun t k => X.aaload P.hx q3 q4 ht B.2.2 q1 q2 (g := mkF m pc Ls (.int j :: .ref a :: st)) rfl rfl (hb P.code hd) t k
theorem baloadI {j : Int32} {u : Nat} {g : Nat → Int32} (P : Pos p l e R s m args below meth c Z own nm bytes maxL ret n0 T h cells slots) (hd : decode bytes pc = .ok (.baload, 1)) (A : ARI Z h a .byte k g) (hj : j.toInt = u ∧ u < k) (hn : n = pc + 1) (E : Ends p e below s R n0 Q T (mkF m n Ls (.int (g u) :: st))) : Ends p e below s R n0 Q T (mkF m pc Ls (.int j :: .ref a :: st)) := ldA P hd A (Or.inl ⟨rfl, Or.inl rfl⟩) hj rfl hn E
theorem zaloadI {j : Int32} {u : Nat} {g : Nat → Int32} (P : Pos p l e R s m args below meth c Z own nm bytes maxL ret n0 T h cells slots) (hd : decode bytes pc = .ok (.baload, 1)) (A : ARI Z h a .boolean k g) (hj : j.toInt = u ∧ u < k) (hn : n = pc + 1) (E : Ends p e below s R n0 Q T (mkF m n Ls (.int (g u) :: st))) : Ends p e below s R n0 Q T (mkF m pc Ls (.int j :: .ref a :: st)) := ldA P hd A (Or.inl ⟨rfl, Or.inr rfl⟩) hj rfl hn E
theorem ialoadI {j : Int32} {u : Nat} {g : Nat → Int32} (P : Pos p l e R s m args below meth c Z own nm bytes maxL ret n0 T h cells slots) (hd : decode bytes pc = .ok (.iaload, 1)) (A : ARI Z h a .int k g) (hj : j.toInt = u ∧ u < k) (hn : n = pc + 1) (E : Ends p e below s R n0 Q T (mkF m n Ls (.int (g u) :: st))) : Ends p e below s R n0 Q T (mkF m pc Ls (.int j :: .ref a :: st)) := ldA P hd A (Or.inr (Or.inl ⟨rfl, rfl⟩)) hj rfl hn E
theorem laloadJ {j : Int32} {u : Nat} {g : Nat → Int64} (P : Pos p l e R s m args below meth c Z own nm bytes maxL ret n0 T h cells slots) (hd : decode bytes pc = .ok (.laload, 1)) (A : ARJ Z h a k g) (hj : j.toInt = u ∧ u < k) (hn : n = pc + 1) (E : Ends p e below s R n0 Q T (mkF m n Ls (.long (g u) :: st))) : Ends p e below s R n0 Q T (mkF m pc Ls (.int j :: .ref a :: st)) := ldA P hd A (Or.inr (Or.inr (Or.inl ⟨rfl, rfl⟩))) hj rfl hn E
theorem alen {x : Int32} (P : Pos p l e R s m args below meth c Z own nm bytes maxL ret n0 T h cells slots) (hd : decode bytes pc = .ok (.arraylength, 1)) (A : AR Z h a ty k f) (hx : x.toInt = k) (hn : n = pc + 1)
    (E : Ends p e below s R n0 Q T (mkF m n Ls (.int x :: st))) : Ends p e below s R n0 Q T (mkF m pc Ls (.ref a :: st)) := by
  subst hn; obtain ⟨_, X, N⟩ := P.stand
  obtain ⟨cl, B, r1, r2, r3⟩ := A
  have q4 := State.isArrayOf_alike (T := s) P.hZ.alike B.2.1
  have q5 : cl.slots.size.toInt32 = x := by rw [← Int32.toInt_inj, len_toInt (by omega), r1, hx]
  exact E.via fun t k => X.arraylength P.hx (by rw [P.heap]; exact B.1) q4 (g := mkF m pc Ls (.ref a :: st)) rfl rfl (hb P.code hd) t (by rw [q5]; exact k)
theorem stI {j : Int32} {u : Nat} {x : Int32} (P : Pos p l e R s m args below meth c Z own nm bytes maxL ret n0 T h cells slots) (hd : decode bytes pc = .ok (.iastore, 1)) (A : AR Z h a .int k f) (hj : j.toInt = u ∧ u < k) (ha : n0 ≤ a) (hn : n = pc + 1)
    (E : ∀ T h', Pos p l e R s m args below meth c Z own nm bytes maxL ret n0 T h' cells slots → Wr h h' a u (.int (x)) → Ends p e below s R n0 Q T (mkF m n Ls st)) : Ends p e below s R n0 Q T (mkF m pc Ls (.int x :: .int j :: .ref a :: st)) := by
  subst hn; obtain ⟨_, X, N⟩ := P.stand
  obtain ⟨cl, B, r1, r2, r3⟩ := A
  obtain ⟨q1, q5⟩ := inA hj r1
  obtain ⟨T', h', X', e', W, kk⟩ := Jvm.RoadKit.stI X P.hx P.hZ P.heap B q1 (g := mkF m pc Ls (.int x :: .int j :: .ref a :: st)) rfl rfl (hb P.code hd)
  rw [q5] at W X'
  refine (E T' h' (P.to X' (Fr.snoc X' N ha) e') ?_).via kk
  exact W
theorem stJ {j : Int32} {u : Nat} {x : Int64} (P : Pos p l e R s m args below meth c Z own nm bytes maxL ret n0 T h cells slots) (hd : decode bytes pc = .ok (.lastore, 1)) (A : AR Z h a .long k f) (hj : j.toInt = u ∧ u < k) (ha : n0 ≤ a) (hn : n = pc + 1)
    (E : ∀ T h', Pos p l e R s m args below meth c Z own nm bytes maxL ret n0 T h' cells slots → Wr h h' a u (.long (x)) → Ends p e below s R n0 Q T (mkF m n Ls st)) : Ends p e below s R n0 Q T (mkF m pc Ls (.long x :: .int j :: .ref a :: st)) := by
  subst hn; obtain ⟨_, X, N⟩ := P.stand
  obtain ⟨cl, B, r1, r2, r3⟩ := A
  obtain ⟨q1, q5⟩ := inA hj r1
  obtain ⟨T', h', X', e', W, kk⟩ := Jvm.RoadKit.stJ X P.hx P.hZ P.heap B q1 (g := mkF m pc Ls (.long x :: .int j :: .ref a :: st)) rfl rfl (hb P.code hd)
  rw [q5] at W X'
  refine (E T' h' (P.to X' (Fr.snoc X' N ha) e') ?_).via kk
  exact W
theorem stB {j : Int32} {u : Nat} {x : Int32} (P : Pos p l e R s m args below meth c Z own nm bytes maxL ret n0 T h cells slots) (hd : decode bytes pc = .ok (.bastore, 1)) (A : AR Z h a .byte k f) (hj : j.toInt = u ∧ u < k) (ha : n0 ≤ a) (hn : n = pc + 1)
    (E : ∀ T h', Pos p l e R s m args below meth c Z own nm bytes maxL ret n0 T h' cells slots → Wr h h' a u (.int (x.toInt8.toInt32)) → Ends p e below s R n0 Q T (mkF m n Ls st)) : Ends p e below s R n0 Q T (mkF m pc Ls (.int x :: .int j :: .ref a :: st)) := by
  subst hn; obtain ⟨_, X, N⟩ := P.stand
  obtain ⟨cl, B, r1, r2, r3⟩ := A
  obtain ⟨q1, q5⟩ := inA hj r1
  obtain ⟨T', h', X', e', W, kk⟩ := Jvm.RoadKit.stB X P.hx P.hZ P.heap B q1 (g := mkF m pc Ls (.int x :: .int j :: .ref a :: st)) rfl rfl (hb P.code hd)
  rw [q5] at W X'
  refine (E T' h' (P.to X' (Fr.snoc X' N ha) e') ?_).via kk
  exact W
theorem stZ {j : Int32} {u : Nat} {x : Int32} (P : Pos p l e R s m args below meth c Z own nm bytes maxL ret n0 T h cells slots) (hd : decode bytes pc = .ok (.bastore, 1)) (A : AR Z h a .boolean k f) (hj : j.toInt = u ∧ u < k) (ha : n0 ≤ a) (hz : x = 0 ∨ x = 1) (hn : n = pc + 1)
    (E : ∀ T h', Pos p l e R s m args below meth c Z own nm bytes maxL ret n0 T h' cells slots → Wr h h' a u (.int (x)) → Ends p e below s R n0 Q T (mkF m n Ls st)) : Ends p e below s R n0 Q T (mkF m pc Ls (.int x :: .int j :: .ref a :: st)) := by
  subst hn; obtain ⟨_, X, N⟩ := P.stand
  obtain ⟨cl, B, r1, r2, r3⟩ := A
  obtain ⟨q1, q5⟩ := inA hj r1
  obtain ⟨T', h', X', e', W, kk⟩ := Jvm.RoadKit.stZ X P.hx P.hZ P.heap B q1 (g := mkF m pc Ls (.int x :: .int j :: .ref a :: st)) rfl rfl (hb P.code hd)
  rw [q5] at W X'
  refine (E T' h' (P.to X' (Fr.snoc X' N ha) e') ?_).via kk
  rcases hz with rfl | rfl <;> exact W
theorem stC {j : Int32} {u : Nat} {x : Int32} (P : Pos p l e R s m args below meth c Z own nm bytes maxL ret n0 T h cells slots) (hd : decode bytes pc = .ok (.castore, 1)) (A : AR Z h a .char k f) (hj : j.toInt = u ∧ u < k) (ha : n0 ≤ a) (hn : n = pc + 1)
    (E : ∀ T h', Pos p l e R s m args below meth c Z own nm bytes maxL ret n0 T h' cells slots → Wr h h' a u (.int (nar .char x)) → Ends p e below s R n0 Q T (mkF m n Ls st)) : Ends p e below s R n0 Q T (mkF m pc Ls (.int x :: .int j :: .ref a :: st)) := by
  subst hn; obtain ⟨_, X, N⟩ := P.stand
  obtain ⟨cl, B, r1, r2, r3⟩ := A
  obtain ⟨q1, q5⟩ := inA hj r1
  obtain ⟨T', h', X', e', W, kk⟩ := Jvm.RoadKit.stC X P.hx P.hZ P.heap B q1 (g := mkF m pc Ls (.int x :: .int j :: .ref a :: st)) rfl rfl (hb P.code hd)
  rw [q5] at W X'
  exact (E T' h' (P.to X' (Fr.snoc X' N ha) e') W).via kk
/-- the library's form of an array -/
theorem AR.arv {vs : List Value} {dv : Value} {N : Int32} (A : AR Z h a ty k f) (hN : N.toInt = k) (hv : ∀ i, i < k → f i = vs.getD i dv) (hf : ∀ i, i < k → fits ty (vs.getD i dv) = true) : ∃ kC, Arv Z h a kC ty N vs dv := by
  obtain ⟨cl, B, r1, r2, r3⟩ := A
  have e0 : (0 : Int32).toInt = 0 := rfl
  refine ⟨cl.cls, cl, B, rfl, by rw [r1]; simp only [Int32.toNatClampNeg]; omega, by rw [Int32.lt_iff_toInt_lt, e0]; omega, fun i hi => ?_, fun i hi => hf i (r1 ▸ hi)⟩
  rw [r1] at hi; rw [r3 i hi, hv i hi]
/-! arrays of references -/
def ARC (Z : State) (h : Heap) (a : Addr) (C : String) (k : Nat) (f : Nat → Value) : Prop := ∃ cl : Cell, Arr Z h a cl (.object C) ∧ cl.slots.size = k ∧ k < 2 ^ 31 ∧ (∀ i, i < k → cl.slots[i]? = some (f i)) ∧ Ovr Z cl.cls C
theorem ARC.ar {C : String} (A : ARC Z h a C k f) : AR Z h a (.object C) k f := by obtain ⟨cl, B, r1, r2, r3, -⟩ := A; exact ⟨cl, B, r1, r2, r3⟩
theorem ARC.lt {C : String} (A : ARC Z h a C k f) : a < h.size := A.ar.lt
theorem ARC.ext {C : String} (A : ARC Z h a C k f) (E : Ext h h') : ARC Z h' a C k f := by obtain ⟨cl, B, r⟩ := A; exact ⟨cl, B.ext E, r⟩
theorem ARC.other {C : String} {sl : Nat} {v : Value} (A : ARC Z h b C k f) (W : Wr h h' a sl v) (q : b ≠ a) : ARC Z h' b C k f := by obtain ⟨cl, B, r⟩ := A; exact ⟨cl, B.other W q, r⟩
theorem ARC.set {C : String} {i : Nat} {v : Value} (A : ARC Z h a C k f) (W : Wr h h' a i v) : ARC Z h' a C k (ovr f i v) := by
  obtain ⟨cl, B, r1, r2, r3, r4⟩ := A
  refine ⟨_, B.same W, by rw [sz_set]; exact r1, r2, fun j hj => ?_, r4⟩
  by_cases u : j = i
  · subst u; simp [Cell.setSlot, r1, hj, ovr]
  · simp only [Cell.setSlot, ovr, if_neg u]
    rw [Array.getElem?_setIfInBounds_ne (Ne.symm u)]; exact r3 j hj
theorem newR {index : Nat} {C : String} {x : Int32} {cap : Nat} (P : Pos p l e R s m args below meth c Z own nm bytes maxL ret n0 T h cells slots) (hd : decode bytes pc = .ok (.anewarray index, 3)) (w1 : (Cond.classLink own index C).before a0 Z = true) (w2 : (Cond.arrayOver (.object C)).before a0 Z = true) (hx : x.toInt = k ∧ k ≤ cap) (hb' : cap * 8 ≤ 536870912) (hc : cells + 1 ≤ R.cells ∧ slots + cap ≤ R.slots) (hn : n = pc + 3)
    (E : ∀ T h' a, Pos p l e R s m args below meth c Z own nm bytes maxL ret n0 T h' (cells + 1) (slots + cap) → Ext h h' → a = h.size → n0 ≤ a → ARC Z h' a C k (fun _ => .null) → Ends p e below s R n0 Q T (mkF m n Ls (.ref a :: st))) : Ends p e below s R n0 Q T (mkF m pc Ls (.int x :: st)) := by
  subst hn; obtain ⟨_, X, N⟩ := P.stand
  have e0 : (0 : Int32).toInt = 0 := rfl
  have q1 : ¬ x < 0 := by rw [Int32.lt_iff_toInt_lt, e0]; omega
  have q2 : x.toNatClampNeg = k := by simp only [Int32.toNatClampNeg]; omega
  obtain ⟨T', h', cA, X', e', Ex, A, O, kk⟩ := Jvm.RoadKit.newR X P.hx P.hZ P.own' w1 w2 P.heap (g := mkF m pc Ls (.int x :: st)) rfl (hb P.code hd) rfl q1 (cap := cap) (by omega) hb' hc.1 hc.2
  refine (E T' h' _ (P.to X' N e') Ex rfl P.low ⟨_, A, (sz_new _ _ _).trans q2, by have := rng32 x; omega, fun i hi => ?_, O⟩).via kk
  rw [← q2] at hi
  simp [newA, hi, defaultValue]
theorem stR {C : String} {j : Int32} {u : Nat} {y : Addr} (P : Pos p l e R s m args below meth c Z own nm bytes maxL ret n0 T h cells slots) (hd : decode bytes pc = .ok (.aastore, 1)) (A : ARC Z h a C k f) (hj : j.toInt = u ∧ u < k) (I : Ins Z h y C true) (ha : n0 ≤ a) (hn : n = pc + 1)
    (E : ∀ T h', Pos p l e R s m args below meth c Z own nm bytes maxL ret n0 T h' cells slots → Wr h h' a u (.ref y) → Ends p e below s R n0 Q T (mkF m n Ls st)) : Ends p e below s R n0 Q T (mkF m pc Ls (.ref y :: .int j :: .ref a :: st)) := by
  subst hn; obtain ⟨_, X, N⟩ := P.stand
  obtain ⟨cl, B, r1, r2, r3, r4⟩ := A
  obtain ⟨q1, q5⟩ := inA hj r1
  obtain ⟨T', h', X', e', W, kk⟩ := Jvm.RoadKit.stR X P.hx P.hZ P.heap B q1 rfl (Sto.of B r4 I) (g := mkF m pc Ls (.ref y :: .int j :: .ref a :: st)) rfl rfl (hb P.code hd)
  rw [q5] at W X'
  exact (E T' h' (P.to X' (Fr.snoc X' N ha) e') W).via kk
/-- null into an array of references -/
theorem stN {j : Int32} {u : Nat} (P : Pos p l e R s m args below meth c Z own nm bytes maxL ret n0 T h cells slots) (hd : decode bytes pc = .ok (.aastore, 1)) (A : AR Z h a ty k f) (ht : ty.isReference = true) (hj : j.toInt = u ∧ u < k) (ha : n0 ≤ a) (hn : n = pc + 1)
    (E : ∀ T h', Pos p l e R s m args below meth c Z own nm bytes maxL ret n0 T h' cells slots → Wr h h' a u .null → Ends p e below s R n0 Q T (mkF m n Ls st)) : Ends p e below s R n0 Q T (mkF m pc Ls (.null :: .int j :: .ref a :: st)) := by
  subst hn; obtain ⟨_, X, N⟩ := P.stand
  obtain ⟨cl, B, r1, r2, r3⟩ := A
  obtain ⟨q1, q5⟩ := inA hj r1
  obtain ⟨T', h', X', e', W, kk⟩ := Jvm.RoadKit.stR X P.hx P.hZ P.heap B q1 ht (Or.inl rfl) (g := mkF m pc Ls (.null :: .int j :: .ref a :: st)) rfl rfl (hb P.code hd)
  rw [q5] at W X'
  exact (E T' h' (P.to X' (Fr.snoc X' N ha) e') W).via kk
theorem newRA {index : Nat} {C ad : String} {ty : FieldType} {x : Int32} {cap : Nat} (P : Pos p l e R s m args below meth c Z own nm bytes maxL ret n0 T h cells slots) (hd : decode bytes pc = .ok (.anewarray index, 3)) (hC : (FieldType.array ty).toString = C) (had : "[" ++ C = ad) (w1 : (Cond.classLink own index C).before a0 Z = true) (w2 : (Cond.arrayOver (.array ty)).before a0 Z = true) (hx : x.toInt = k ∧ k ≤ cap) (hb' : cap * 8 ≤ 536870912) (hc : cells + 1 ≤ R.cells ∧ slots + cap ≤ R.slots) (hn : n = pc + 3)
    (E : ∀ T h' a, Pos p l e R s m args below meth c Z own nm bytes maxL ret n0 T h' (cells + 1) (slots + cap) → Ext h h' → a = h.size → n0 ≤ a → AR Z h' a (.array ty) k (fun _ => .null) → Ends p e below s R n0 Q T (mkF m n Ls (.ref a :: st))) : Ends p e below s R n0 Q T (mkF m pc Ls (.int x :: st)) := by
  subst hn; obtain ⟨_, X, N⟩ := P.stand
  have e0 : (0 : Int32).toInt = 0 := rfl
  have q1 : ¬ x < 0 := by rw [Int32.lt_iff_toInt_lt, e0]; omega
  have q2 : x.toNatClampNeg = k := by simp only [Int32.toNatClampNeg]; omega
  obtain ⟨T', h', cA, X', e', Ex, A, -, -, kk⟩ := Jvm.RoadKit.newRA X P.hx P.hZ P.own' hC w1 w2 P.heap (g := mkF m pc Ls (.int x :: st)) rfl (hb P.code hd) rfl q1 (cap := cap) (by omega) hb' hc.1 hc.2 had
  refine (E T' h' _ (P.to X' N e') Ex rfl P.low ⟨_, A, (sz_new _ _ _).trans q2, by have := rng32 x; omega, fun i hi => ?_⟩).via kk
  rw [← q2] at hi
  simp [newA, hi, defaultValue]
theorem aaloadA {j : Int32} {u : Nat} {g : Nat → Addr} {C : String} (P : Pos p l e R s m args below meth c Z own nm bytes maxL ret n0 T h cells slots) (hd : decode bytes pc = .ok (.aaload, 1)) (A : AR Z h a (.object C) k (fun i => .ref (g i))) (hj : j.toInt = u ∧ u < k) (hn : n = pc + 1) (E : Ends p e below s R n0 Q T (mkF m n Ls (.ref (g u) :: st))) : Ends p e below s R n0 Q T (mkF m pc Ls (.int j :: .ref a :: st)) := ldA P hd A (Or.inr (Or.inr (Or.inr (Or.inr ⟨rfl, rfl⟩)))) hj rfl hn E
/-! from the sheet's words -/
theorem eq_v {t : Term} {k : Int32} {idx : List Nat} (h : (Cond.eq t (.int k)).value args s none s idx = some true) : t.eval args s none idx s = some (.int k) := by
  cases hv : t.eval args s none idx s with
  | none => simp [Cond.value, hv] at h
  | some v => cases v <;> simp_all [Cond.value, Term.eval]
theorem ord_v {t : Term} {C nn d : String} {k : Int32} (ht : t.eval args s none [] s = some (.ref a)) (h : (Cond.eq (.field t C nn d) (.int k)).value args s none s [] = some true) : Fld s s.heap a C nn d (.int k) :=
  Fld.start ((fld_at (o := none) (args := args) (first := s) (idx := []) ht).symm.trans (eq_v h))
theorem fref_v {t u : Term} {C nn d : String} (ht : t.eval args s none [] s = some (.ref a)) (hu : u.eval args s none [] s = some (.ref b)) (h : (Cond.eq (.field t C nn d) u).value args s none s [] = some true) : Fld s s.heap a C nn d (.ref b) := by
  refine Fld.start ((fld_at (o := none) (args := args) (first := s) (idx := []) ht).symm.trans ?_)
  cases hv : (Term.field t C nn d).eval args s none [] s with
  | none => simp [Cond.value, hv] at h
  | some v => cases v <;> simp_all [Cond.value]
theorem AR.start {t : Term} {z : Int32} (ev : t.eval args s none [] s = some (.ref a)) (hx : (Cond.arrayOf t ty).value args s none s [] = some true) (hl : (Cond.eq (.length t) (.int z)).value args s none s [] = some true) (hz : z.toInt = k)
    (he : ∀ i, i < k → (Term.elem t (.int (Int32.ofNat i))).eval args s none [] s = some (f i)) : AR s s.heap a ty k f := by
  obtain ⟨cl, A⟩ := Arr.start ev hx
  have hA : s.arrayAt? a = some cl := A.fin (Vm.Alike.refl _)
  have hl2 := eq_v hl
  have hl3 : cl.slots.size < 2 ^ 31 ∧ cl.slots.size.toInt32 = z := by simpa [Term.eval, ev, hA] using hl2
  have hsz : cl.slots.size = k := by
    have := len_toInt hl3.1; rw [hl3.2, hz] at this; omega
  refine ⟨cl, A, hsz, by omega, fun i hi => ?_⟩
  have e2 := (elem_in (he i hi) ev (Term.int_eval _) A.1).2
  have e3 : (Int32.ofNat i).toNatClampNeg = i := by
    simp only [Int32.toNatClampNeg, Int32.toInt_ofNat_small (show i < 2 ^ 31 by omega)]; omega
  rw [e3] at e2; exact e2
/-! System.arraycopy of ints -/
theorem Arv.ari {kC : ClassId} {N : Int32} {vs : List Value} {dv : Value} (V : Arv Z h a kC ty N vs dv) (hN : N.toInt = k) : AR Z h a ty k (fun i => vs.getD i dv) := by
  obtain ⟨cl, B, -, r1, r2, H, -⟩ := V
  have e : cl.slots.size = k := by rw [r1]; simp only [Int32.toNatClampNeg]; omega
  exact ⟨cl, B, e, by have := rng32 N; omega, fun i hi => H i (by omega)⟩
theorem acopy {index : Nat} {k' : Nat} {f' : Nat → Value} {sp dp nn : Int32} {S D N : Nat} (P : Pos p l e R s m args below meth c Z own nm bytes maxL ret n0 T h cells slots) (hd : decode bytes pc = .ok (.invokestatic index, 3))
    (w1 : (Cond.methodLink own index Jvm.Stand.acN).before a0 Z = true) (w2 : (Cond.native Jvm.Stand.acN).before a0 Z = true) (w3 : (Cond.static Jvm.Stand.acN).before a0 Z = true) (w4 : (Cond.initialized "java/lang/System").before a0 Z = true)
    (A : AR Z h a .int k f) (B : AR Z h b .int k' f') (fA : ∀ i, i < k → fits .int (f i) = true) (fB : ∀ i, i < k' → fits .int (f' i) = true) (hs : sp.toInt = S ∧ dp.toInt = D ∧ nn.toInt = N) (h4 : S + N ≤ k) (h5 : D + N ≤ k') (ge : n0 ≤ b) (hsz : Ls.size = maxL)
    (hr : 1 ≤ R.frames ∧ (st.map fun v => v.category).sum + (nativeFrameWords "java/lang/System" "arraycopy" 5 + 11) ≤ R.locals) (hn : n = pc + 3)
    (E : ∀ T h', Pos p l e R s m args below meth c Z own nm bytes maxL ret n0 T h' cells slots → Keep h h' [b] → AR Z h' b .int k' (fun i => if D ≤ i ∧ i < D + N then f (S + (i - D)) else f' i) → Ends p e below s R n0 Q T (mkF m n Ls st)) : Ends p e below s R n0 Q T (mkF m pc Ls (.int nn :: .int dp :: .ref b :: .int sp :: .ref a :: st)) := by
  subst hn; obtain ⟨locs, X, NF⟩ := P.stand
  have e0 : (0 : Int32).toInt = 0 := rfl
  have gd : ∀ (F : Nat → Value) (K i : Nat), i < K → ((List.range K).map F).getD i (.int 0) = F i := fun F K i hi => by simp [List.getD_eq_getElem?_getD, hi]
  have kA := A.len; have kB := B.len
  obtain ⟨kC, VA⟩ := AR.arv (vs := (List.range k).map f) (dv := .int 0) (N := Int32.ofNat k) A (Int32.toInt_ofNat_small kA) (fun i hi => (gd f k i hi).symm) (fun i hi => by rw [gd f k i hi]; exact fA i hi)
  obtain ⟨kD, VB⟩ := AR.arv (vs := (List.range k').map f') (dv := .int 0) (N := Int32.ofNat k') B (Int32.toInt_ofNat_small kB) (fun i hi => (gd f' k' i hi).symm) (fun i hi => by rw [gd f' k' i hi]; exact fB i hi)
  have c1 : sp.toNatClampNeg = S := by simp only [Int32.toNatClampNeg]; omega
  have c2 : dp.toNatClampNeg = D := by simp only [Int32.toNatClampNeg]; omega
  have c3 : nn.toNatClampNeg = N := by simp only [Int32.toNatClampNeg]; omega
  have c4 : (Int32.ofNat k).toNatClampNeg = k := by simp only [Int32.toNatClampNeg, Int32.toInt_ofNat_small kA]; omega
  have c5 : (Int32.ofNat k').toNatClampNeg = k' := by simp only [Int32.toNatClampNeg, Int32.toInt_ofNat_small kB]; omega
  obtain ⟨T', h', L, X', e', NL, K, V', kk⟩ := cpA X P.hx P.hZ P.own' w1 w2 w3 w4 P.heap VA VB (Or.inl ⟨rfl, rfl⟩) (by rw [Int32.lt_iff_toInt_lt, e0]; omega) (by rw [Int32.lt_iff_toInt_lt, e0]; omega) (by rw [Int32.lt_iff_toInt_lt, e0]; omega) (by omega) (by omega) rfl (by simp; omega) NF ge
    (g := mkF m pc Ls (.int nn :: .int dp :: .ref b :: .int sp :: .ref a :: st)) rfl (hsz.trans P.maxl.symm) rfl (hb P.code hd) hr.1 (W := (st.map fun v => v.category).sum) (by show 2 * 0 + _ ≤ _; omega) hr.2
  refine (E T' h' (P.to X' NL e') K ((Arv.ari V' (Int32.toInt_ofNat_small kB)).congr fun i hi => ?_)).via kk
  simp only [c1, c2, c3, List.getD_eq_getElem?_getD]
  by_cases q1 : i < D
  · rw [if_neg (by omega), List.append_assoc, List.getElem?_append_left (by simp; omega)]
    simp [q1, hi]
  · by_cases q2 : i < D + N
    · rw [if_pos (by omega), List.append_assoc, List.getElem?_append_right (by simp; omega), List.getElem?_append_left (by simp; omega)]
      have z1 : min D k' = D := by omega
      have z2 : i - D < N := by omega
      have z3 : S + (i - D) < k := by omega
      simp [z1, z2, z3]
    · rw [if_neg (by omega), List.getElem?_append_right (by simp; omega)]
      have z1 : min D k' = D := by omega
      have z4 : D + N + (i - (D + N)) = i := by omega
      simp [z1, z4, hi]
/-! calls -/
theorem Meth.back {y : MethodName} {cb : ByteArray} {mL : Nat} {rt : Option FieldType} {rm : Room} {as : Array Value} {Qc : Option Value → Heap → Prop} {W : Nat} (hM : Meth l Z y cb mL rt rm as h n0 Qc) (hZ : Z.Warmed39 s.vm) (wc : (Cond.code y cb mL rt).before a0 Z = true) (wz : (Cond.initialized y.cls).before a0 Z = true) (hf : rm.frames + 1 ≤ R.frames) (hl : W + (mL + 11) + rm.locals ≤ R.locals) :
    Back l R p e below s args y 3 W (fun A a => a = as ∧ A.U.heap = h ∧ A.cells + rm.cells ≤ R.cells ∧ A.slots + rm.slots ≤ R.slots) (fun A _ v B => ∃ L, (Qc v B.U.heap ∧ Fr n0 L) ∧ B.locs = A.locs ++ L ∧ B.cells = A.cells + rm.cells ∧ B.slots = A.slots + rm.slots) :=
  backOf (Q := fun v h' L => Qc v h' ∧ Fr n0 L) (hM []) hZ wc wz hf hl
theorem callS {index : Nat} {y : MethodName} {cb : ByteArray} {mL : Nat} {rt : Option FieldType} {rm : Room} {argsL rest stk : List Value} {ps : List FieldType} {r : Option FieldType} {Qc : Option Value → Heap → Prop} (P : Pos p l e R s m args below meth c Z own nm bytes maxL ret n0 T h cells slots) (hd : decode bytes pc = .ok (.invokestatic index, 3))
    (hM : Meth l Z y cb mL rt rm argsL.toArray h n0 Qc) (w1 : (Cond.methodLink own index y).before a0 Z = true) (w2 : (Cond.static y).before a0 Z = true) (w3 : (Cond.initialized y.cls).before a0 Z = true) (w4 : (Cond.code y cb mL rt).before a0 Z = true) (hy : y.cls ≠ "java/lang/invoke/MethodHandle" ∧ y.cls ≠ "java/lang/invoke/VarHandle")
    (hp : parseMethodDescriptor y.desc = some ⟨ps, r⟩) (hl : argsL.length = ps.length) (hst : stk = argsL.reverse ++ rest) (hsz : Ls.size = maxL) (hr : rm.frames + 1 ≤ R.frames ∧ (rest.map fun v => v.category).sum + (mL + 11) + rm.locals ≤ R.locals ∧ cells + rm.cells ≤ R.cells ∧ slots + rm.slots ≤ R.slots) (hn : n = pc + 3)
    (E : ∀ T h' v, Pos p l e R s m args below meth c Z own nm bytes maxL ret n0 T h' (cells + rm.cells) (slots + rm.slots) → Qc v h' → Ends p e below s R n0 Q T (mkF m n Ls (v.toList ++ rest))) : Ends p e below s R n0 Q T (mkF m pc Ls stk) := by
  subst hn hst; obtain ⟨locs, X, N⟩ := P.stand
  obtain ⟨v, _, ⟨T', L', k', n'⟩, -, X', ⟨Lc, hQ, e1, e2, e3⟩, kk⟩ := Jvm.LawKit.callS X P.hx (y := y) P.own' (mvT P.hZ w1) (mvT P.hZ w2) (mvT P.hZ w3) (mvT P.hZ w4) hy (hM.back (W := (rest.map fun v => v.category).sum) P.hZ w4 w3 hr.1 hr.2.1) (g := mkF m pc Ls (argsL.reverse ++ rest)) rfl (hsz.trans P.maxl.symm) (argsL := argsL) (rest := rest) (lenOf hp hl) rfl (by show 2 * 0 + _ ≤ _; omega) (hb P.code hd) (fun _ _ => ⟨rfl, P.heap, hr.2.2.1, hr.2.2.2⟩)
  dsimp only [Pt.U, Pt.locs, Pt.cells, Pt.slots] at X' e1 e2 e3 kk hQ
  subst e1 e2 e3
  exact (E T' T'.heap v (P.to X' (Fr.app N hQ.2) rfl) hQ.1).via kk
theorem callN {a : Addr} {index : Nat} {y : MethodName} {cb : ByteArray} {mL : Nat} {rm : Room} {argsL rest stk : List Value} {ps : List FieldType} {r : Option FieldType} {Qc : Option Value → Heap → Prop} (P : Pos p l e R s m args below meth c Z own nm bytes maxL ret n0 T h cells slots) (hd : decode bytes pc = .ok (.invokespecial index, 3))
    (hM : Meth l Z y cb mL none rm (.ref a :: argsL).toArray h n0 Qc) (hy1 : y.name = "<init>") (w1 : (Cond.methodLink own index y).before a0 Z = true) (w2 : (Cond.instanceMethod y).before a0 Z = true) (w3 : (Cond.initialized y.cls).before a0 Z = true) (w4 : (Cond.code y cb mL none).before a0 Z = true) (hy : y.cls ≠ "java/lang/invoke/MethodHandle" ∧ y.cls ≠ "java/lang/invoke/VarHandle")
    (hp : parseMethodDescriptor y.desc = some ⟨ps, r⟩) (hl : argsL.length = ps.length) (hst : stk = argsL.reverse ++ .ref a :: rest) (hsz : Ls.size = maxL) (hr : rm.frames + 1 ≤ R.frames ∧ (rest.map fun v => v.category).sum + (mL + 11) + rm.locals ≤ R.locals ∧ cells + rm.cells ≤ R.cells ∧ slots + rm.slots ≤ R.slots) (hn : n = pc + 3)
    (E : ∀ T h' v, Pos p l e R s m args below meth c Z own nm bytes maxL ret n0 T h' (cells + rm.cells) (slots + rm.slots) → Qc v h' → Ends p e below s R n0 Q T (mkF m n Ls (v.toList ++ rest))) : Ends p e below s R n0 Q T (mkF m pc Ls stk) := by
  subst hn hst; obtain ⟨locs, X, N⟩ := P.stand
  obtain ⟨v, _, ⟨T', L', k', n'⟩, -, X', ⟨Lc, hQ, e1, e2, e3⟩, kk⟩ := X.specialBack P.hx (y := y) hy1 P.own' (mvT P.hZ w1) (mvT P.hZ w2) (mvT P.hZ w4) hy (hM.back (W := (rest.map fun v => v.category).sum) P.hZ w4 w3 hr.1 hr.2.1) (g := mkF m pc Ls (argsL.reverse ++ .ref a :: rest)) rfl (hsz.trans P.maxl.symm) (Steps.refl _) (a := a) (argsL := argsL) (rest := rest) (lenOf hp hl) rfl (by show 2 * 0 + _ ≤ _; omega) (hb P.code hd) (fun _ _ => ⟨rfl, P.heap, hr.2.2.1, hr.2.2.2⟩)
  dsimp only [Pt.U, Pt.locs, Pt.cells, Pt.slots] at X' e1 e2 e3 kk hQ
  subst e1 e2 e3
  exact (E T' T'.heap v (P.to X' (Fr.app N hQ.2) rfl) hQ.1).via fun t k => kk.trans k
theorem callV {a : Addr} {C : String} {z : MethodName} {index : Nat} {y : MethodName} {cb : ByteArray} {mL : Nat} {rt : Option FieldType} {rm : Room} {argsL rest stk : List Value} {ps : List FieldType} {r : Option FieldType} {Qc : Option Value → Heap → Prop} (P : Pos p l e R s m args below meth c Z own nm bytes maxL ret n0 T h cells slots) (hd : decode bytes pc = .ok (.invokevirtual index, 3))
    (hM : Meth l Z z cb mL rt rm (.ref a :: argsL).toArray h n0 Qc) (X0 : Exa Z h a C) (w1 : (Cond.methodLink own index y).before a0 Z = true) (w2 : (Cond.declares y).before a0 Z = true) (nf : NotFace s y) (ws : (Cond.selects C y z).before a0 Z = true) (wi : (Cond.instanceMethod z).before a0 Z = true) (w3 : (Cond.initialized z.cls).before a0 Z = true) (w4 : (Cond.code z cb mL rt).before a0 Z = true) (hy : y.cls ≠ "java/lang/invoke/MethodHandle" ∧ y.cls ≠ "java/lang/invoke/VarHandle")
    (hp : parseMethodDescriptor y.desc = some ⟨ps, r⟩) (hl : argsL.length = ps.length) (hst : stk = argsL.reverse ++ .ref a :: rest) (hsz : Ls.size = maxL) (hr : rm.frames + 1 ≤ R.frames ∧ (rest.map fun v => v.category).sum + (mL + 11) + rm.locals ≤ R.locals ∧ cells + rm.cells ≤ R.cells ∧ slots + rm.slots ≤ R.slots) (hn : n = pc + 3)
    (E : ∀ T h' v, Pos p l e R s m args below meth c Z own nm bytes maxL ret n0 T h' (cells + rm.cells) (slots + rm.slots) → Qc v h' → Ends p e below s R n0 Q T (mkF m n Ls (v.toList ++ rest))) : Ends p e below s R n0 Q T (mkF m pc Ls stk) := by
  subst hn hst; obtain ⟨locs, X, N⟩ := P.stand
  obtain ⟨cq, kq, q1, q2, q3⟩ := isOf P.hZ P.heap X0
  obtain ⟨v, _, ⟨T', L', k', n'⟩, -, X', ⟨Lc, hQ, e1, e2, e3⟩, kk⟩ := X.virtualBack P.hx (y := y) (z := z) P.own' (mvT P.hZ w1) (mvT P.hZ w2) nf (mvT P.hZ ws) (mvT P.hZ wi) hy (hM.back (W := (rest.map fun v => v.category).sum) P.hZ w4 w3 hr.1 hr.2.1) q1 q3 (g := mkF m pc Ls (argsL.reverse ++ .ref a :: rest)) rfl (hsz.trans P.maxl.symm) (Steps.refl _) (argsL := argsL) (rest := rest) (lenOf hp hl) rfl (by show 2 * 0 + _ ≤ _; omega) (hb P.code hd) (fun _ _ => ⟨rfl, P.heap, hr.2.2.1, hr.2.2.2⟩)
  dsimp only [Pt.U, Pt.locs, Pt.cells, Pt.slots] at X' e1 e2 e3 kk hQ
  subst e1 e2 e3
  exact (E T' T'.heap v (P.to X' (Fr.app N hQ.2) rfl) hQ.1).via fun t k => kk.trans k
theorem callP {a : Addr} {C : String} {kk : Nat} {index : Nat} {y : MethodName} {cb : ByteArray} {mL : Nat} {rt : Option FieldType} {rm : Room} {argsL rest stk : List Value} {ps : List FieldType} {r : Option FieldType} {Qc : Option Value → Heap → Prop} (P : Pos p l e R s m args below meth c Z own nm bytes maxL ret n0 T h cells slots) (hd : decode bytes pc = .ok (.invokevirtual index, 3))
    (hM : Meth l Z y cb mL rt rm (.ref a :: argsL).toArray h n0 Qc) (X0 : Exa Z h a C) (w1 : (Cond.methodLink own index y).before a0 Z = true) (wi : (Cond.instanceMethod y).before a0 Z = true) (wn : (Cond.instantiable y.cls kk).before a0 Z = true) (wp : (Cond.privateMethod y).before a0 Z = true) (w3 : (Cond.initialized y.cls).before a0 Z = true) (w4 : (Cond.code y cb mL rt).before a0 Z = true) (hy : y.cls ≠ "java/lang/invoke/MethodHandle" ∧ y.cls ≠ "java/lang/invoke/VarHandle")
    (hp : parseMethodDescriptor y.desc = some ⟨ps, r⟩) (hl : argsL.length = ps.length) (hst : stk = argsL.reverse ++ .ref a :: rest) (hsz : Ls.size = maxL) (hr : rm.frames + 1 ≤ R.frames ∧ (rest.map fun v => v.category).sum + (mL + 11) + rm.locals ≤ R.locals ∧ cells + rm.cells ≤ R.cells ∧ slots + rm.slots ≤ R.slots) (hn : n = pc + 3)
    (E : ∀ T h' v, Pos p l e R s m args below meth c Z own nm bytes maxL ret n0 T h' (cells + rm.cells) (slots + rm.slots) → Qc v h' → Ends p e below s R n0 Q T (mkF m n Ls (v.toList ++ rest))) : Ends p e below s R n0 Q T (mkF m pc Ls stk) := by
  subst hn hst; obtain ⟨locs, X, N⟩ := P.stand
  obtain ⟨cq, q1, q2⟩ := X0.cell
  have wi' : (Cond.instanceMethod y).before args s = true := mvT P.hZ wi
  have pv : s.PrivateAt y := Cond.privateMethod_at (mvP P.hZ wp (args := #[]))
  obtain ⟨c0, k0, hc0, hk0, -, hfl, -⟩ := Cond.instantiable_spec (mvT P.hZ wn (args := args))
  have ws : (Cond.selects y.cls y y).before args s = true := selects_self_of_private hc0 hk0 (by simp_all) pv wi' hy
  obtain ⟨v, _, ⟨T', L', k', n'⟩, -, X', ⟨Lc, hQ, e1, e2, e3⟩, kk⟩ := X.privateBack P.hx (y := y) P.own' (mvT P.hZ w1) wi' ws pv (mvT P.hZ w4) hy (hM.back (W := (rest.map fun v => v.category).sum) P.hZ w4 w3 hr.1 hr.2.1) (g := mkF m pc Ls (argsL.reverse ++ .ref a :: rest)) rfl (hsz.trans P.maxl.symm) (Steps.refl _) (a := a) (by rw [P.heap]; exact q1) q2 (argsL := argsL) (rest := rest) (lenOf hp hl) rfl (by show 2 * 0 + _ ≤ _; omega) (hb P.code hd) (fun _ _ => ⟨rfl, P.heap, hr.2.2.1, hr.2.2.2⟩)
  dsimp only [Pt.U, Pt.locs, Pt.cells, Pt.slots] at X' e1 e2 e3 kk hQ
  subst e1 e2 e3
  exact (E T' T'.heap v (P.to X' (Fr.app N hQ.2) rfl) hQ.1).via fun t k => kk.trans k
/-- a constructor's call paid by a given Back -/
theorem callNB {a : Addr} {index : Nat} {y : MethodName} {cb : ByteArray} {mL : Nat} {argsL rest stk : List Value} {ps : List FieldType} {r : Option FieldType} {kc ks : Nat} {QQ : Option Value → Heap → List Loc → Prop} (P : Pos p l e R s m args below meth c Z own nm bytes maxL ret n0 T h cells slots) (hd : decode bytes pc = .ok (.invokespecial index, 3))
    (hB : Back l R p e below s args y 3 (rest.map fun v => v.category).sum (fun A a' => a' = (.ref a :: argsL).toArray ∧ A.U.heap = h ∧ A.cells + kc ≤ R.cells ∧ A.slots + ks ≤ R.slots) (fun A _ v B => ∃ L, QQ v B.U.heap L ∧ B.locs = A.locs ++ L ∧ B.cells = A.cells + kc ∧ B.slots = A.slots + ks))
    (hQF : ∀ v h' L, QQ v h' L → Fr n0 L) (hy1 : y.name = "<init>") (w1 : (Cond.methodLink own index y).before a0 Z = true) (w2 : (Cond.instanceMethod y).before a0 Z = true) (w4 : (Cond.code y cb mL none).before a0 Z = true) (hy : y.cls ≠ "java/lang/invoke/MethodHandle" ∧ y.cls ≠ "java/lang/invoke/VarHandle")
    (hp : parseMethodDescriptor y.desc = some ⟨ps, r⟩) (hl : argsL.length = ps.length) (hst : stk = argsL.reverse ++ .ref a :: rest) (hsz : Ls.size = maxL) (hr : cells + kc ≤ R.cells ∧ slots + ks ≤ R.slots) (hn : n = pc + 3)
    (E : ∀ T h' v L, Pos p l e R s m args below meth c Z own nm bytes maxL ret n0 T h' (cells + kc) (slots + ks) → QQ v h' L → Ends p e below s R n0 Q T (mkF m n Ls (v.toList ++ rest))) : Ends p e below s R n0 Q T (mkF m pc Ls stk) := by
  subst hn hst; obtain ⟨locs, X, N⟩ := P.stand
  obtain ⟨v, _, ⟨T', L', k', n'⟩, -, X', ⟨Lc, hQ, e1, e2, e3⟩, kk⟩ := X.specialBack P.hx (y := y) hy1 P.own' (mvT P.hZ w1) (mvT P.hZ w2) (mvT P.hZ w4) hy hB (g := mkF m pc Ls (argsL.reverse ++ .ref a :: rest)) rfl (hsz.trans P.maxl.symm) (Steps.refl _) (a := a) (argsL := argsL) (rest := rest) (lenOf hp hl) rfl (by show 2 * 0 + _ ≤ _; omega) (hb P.code hd) (fun _ _ => ⟨rfl, P.heap, hr.1, hr.2⟩)
  dsimp only [Pt.U, Pt.locs, Pt.cells, Pt.slots] at X' e1 e2 e3 kk hQ
  subst e1 e2 e3
  exact (E T' T'.heap v Lc (P.to X' (Fr.app N (hQF _ _ _ hQ)) rfl) hQ).via fun t k => kk.trans k
/-- returns v and leaves the heap as it was -/
def Ret (v : Value) (h : Heap) : Option Value → Heap → Prop := fun w h' => w = some v ∧ h' = h
theorem Ret.ofI {x y : Int32} (q : x = y) : Ret (.int y) h (some (.int x)) h := ⟨by rw [q], rfl⟩
theorem Ret.ofL {x y : Int64} (q : x = y) : Ret (.long y) h (some (.long x)) h := ⟨by rw [q], rfl⟩
theorem Ret.ofA {x y : Value} (q : x = y) : Ret y h (some x) h := ⟨by rw [q], rfl⟩
/-- the continuation behind a call that only returns -/
theorem Ret.on {v : Value} {cells' slots' : Nat} {rest : List Value} (E : ∀ T, Pos p l e R s m args below meth c Z own nm bytes maxL ret n0 T h cells' slots' → Ends p e below s R n0 Q T (mkF m n Ls (v :: rest))) :
    ∀ T h' w, Pos p l e R s m args below meth c Z own nm bytes maxL ret n0 T h' cells' slots' → Ret v h w h' → Ends p e below s R n0 Q T (mkF m n Ls (w.toList ++ rest)) := by
  rintro T h' w P ⟨rfl, rfl⟩; exact E T P

/-- returns nothing and leaves the heap as it was -/
def RetV (h : Heap) : Option Value → Heap → Prop := fun w h' => w = none ∧ h' = h
theorem RetV.mk : RetV h none h := ⟨rfl, rfl⟩
theorem RetV.on {cells' slots' : Nat} {rest : List Value} (E : ∀ T, Pos p l e R s m args below meth c Z own nm bytes maxL ret n0 T h cells' slots' → Ends p e below s R n0 Q T (mkF m n Ls rest)) :
    ∀ T h' w, Pos p l e R s m args below meth c Z own nm bytes maxL ret n0 T h' cells' slots' → RetV h w h' → Ends p e below s R n0 Q T (mkF m n Ls (w.toList ++ rest)) := by
  rintro T h' w P ⟨rfl, rfl⟩; exact E T P
/-- returns an int (a long) of which F holds, and leaves the heap as it was -/
def RetI (F : Int32 → Prop) (h : Heap) : Option Value → Heap → Prop := fun w h' => ∃ z, w = some (.int z) ∧ F z ∧ h' = h
def RetJ (F : Int64 → Prop) (h : Heap) : Option Value → Heap → Prop := fun w h' => ∃ z, w = some (.long z) ∧ F z ∧ h' = h
theorem RetI.mk {F : Int32 → Prop} {x : Int32} (q : F x) : RetI F h (some (.int x)) h := ⟨x, rfl, q, rfl⟩
theorem RetJ.mk {F : Int64 → Prop} {x : Int64} (q : F x) : RetJ F h (some (.long x)) h := ⟨x, rfl, q, rfl⟩
theorem RetI.on {F : Int32 → Prop} {cells' slots' : Nat} {rest : List Value} (E : ∀ T z, Pos p l e R s m args below meth c Z own nm bytes maxL ret n0 T h cells' slots' → F z → Ends p e below s R n0 Q T (mkF m n Ls (.int z :: rest))) :
    ∀ T h' w, Pos p l e R s m args below meth c Z own nm bytes maxL ret n0 T h' cells' slots' → RetI F h w h' → Ends p e below s R n0 Q T (mkF m n Ls (w.toList ++ rest)) := by
  rintro T h' w P ⟨z, rfl, q, rfl⟩; exact E T z P q
theorem RetJ.on {F : Int64 → Prop} {cells' slots' : Nat} {rest : List Value} (E : ∀ T z, Pos p l e R s m args below meth c Z own nm bytes maxL ret n0 T h cells' slots' → F z → Ends p e below s R n0 Q T (mkF m n Ls (.long z :: rest))) :
    ∀ T h' w, Pos p l e R s m args below meth c Z own nm bytes maxL ret n0 T h' cells' slots' → RetJ F h w h' → Ends p e below s R n0 Q T (mkF m n Ls (w.toList ++ rest)) := by
  rintro T h' w P ⟨z, rfl, q, rfl⟩; exact E T z P q
end Core
/-! numbers: what an operation is worth where nothing wraps -/
section Num
theorem n_iadd {x y z : Int32} {X Y : Int} (hz : z = x + y) (hx : x.toInt = X) (hy : y.toInt = Y) (b : -2147483648 ≤ X + Y ∧ X + Y ≤ 2147483647) : z.toInt = X + Y := by
  subst hz hx hy; have := c_iadd x y; have := rng32 (x + y); omega
theorem n_isub {x y z : Int32} {X Y : Int} (hz : z = x - y) (hx : x.toInt = X) (hy : y.toInt = Y) (b : -2147483648 ≤ X - Y ∧ X - Y ≤ 2147483647) : z.toInt = X - Y := by
  subst hz hx hy; have := c_isub x y; have := rng32 (x - y); omega
theorem n_imul {x y z : Int32} {X Y : Int} (hz : z = x * y) (hx : x.toInt = X) (hy : y.toInt = Y) (b : -2147483648 ≤ X * Y ∧ X * Y ≤ 2147483647) : z.toInt = X * Y := by
  subst hz hx hy; have h1 := c_imul x y; have := rng32 (x * y); generalize x.toInt * y.toInt = w at *; omega
theorem n_ladd {x y z : Int64} {X Y : Int} (hz : z = x + y) (hx : x.toInt = X) (hy : y.toInt = Y) (b : -9223372036854775808 ≤ X + Y ∧ X + Y ≤ 9223372036854775807) : z.toInt = X + Y := by
  subst hz hx hy; have := c_ladd x y; have := rng64 (x + y); omega
theorem n_lsub {x y z : Int64} {X Y : Int} (hz : z = x - y) (hx : x.toInt = X) (hy : y.toInt = Y) (b : -9223372036854775808 ≤ X - Y ∧ X - Y ≤ 9223372036854775807) : z.toInt = X - Y := by
  subst hz hx hy; have := c_lsub x y; have := rng64 (x - y); omega
theorem n_lmul {x y z : Int64} {X Y : Int} (hz : z = x * y) (hx : x.toInt = X) (hy : y.toInt = Y) (b : -9223372036854775808 ≤ X * Y ∧ X * Y ≤ 9223372036854775807) : z.toInt = X * Y := by
  subst hz hx hy; have h1 := c_lmul x y; have := rng64 (x * y); generalize x.toInt * y.toInt = w at *; omega
theorem n_i2l {x : Int32} {z : Int64} {X : Int} (hz : z = x.toInt64) (hx : x.toInt = X) : z.toInt = X := by subst hz hx; exact c_i2l x
theorem n_irem {x y z : Int32} {X Y : Int} (hz : z = x % y) (hx : x.toInt = X) (hy : y.toInt = Y) (b : 0 ≤ X) : z.toInt = X % Y := by
  subst hz hx; exact (c_irem x y Y hy).1 b
theorem n_idiv {x y z : Int32} {X Y : Int} (hz : z = x / y) (hx : x.toInt = X) (hy : y.toInt = Y) (b : 0 ≤ X ∧ 0 < Y) : z.toInt = X / Y := by
  subst hz hx; exact (c_idiv x y Y hy (fun q => by subst q; have : (-1 : Int32).toInt = -1 := rfl; omega)).1 b.1
theorem n_ldiv {x y z : Int64} {X Y : Int} (hz : z = x / y) (hx : x.toInt = X) (hy : y.toInt = Y) (b : 0 ≤ X ∧ 0 < Y) : z.toInt = X / Y := by
  subst hz hx; exact (c_ldiv x y Y hy (fun q => by subst q; have : (-1 : Int64).toInt = -1 := rfl; omega)).1 b.1
theorem n_mask {x m z : Int32} {X : Int} (k : Nat) (hz : z = x &&& m) (hx : x.toInt = X) (hk : k ≤ 31 ∧ m.toBitVec.toNat = 2 ^ k - 1) : z.toInt = X % (2 ^ k : Nat) := by subst hz hx; exact c_mask x m k hk.1 hk.2
theorem n_maskL {x m z : Int64} {X : Int} (k : Nat) (hz : z = x &&& m) (hx : x.toInt = X) (hk : k ≤ 63 ∧ m.toBitVec.toNat = 2 ^ k - 1) : z.toInt = X % (2 ^ k : Nat) := by subst hz hx; exact c_maskL x m k hk.1 hk.2
theorem n_iushr {x q z : Int32} {X : Int} (k : Nat) (hz : z = (x.toUInt32 >>> (q &&& 31).toUInt32).toInt32) (hx : x.toInt = X) (hk : q.toBitVec.toNat % 32 = k ∧ 0 < k) : z.toInt = (X % 4294967296) / (2 ^ k : Nat) := by subst hz hx; exact c_iushr x q k hk.1 hk.2
theorem n_ishr {x q z : Int32} {X : Int} (k : Nat) (hz : z = x >>> (q &&& 31)) (hx : x.toInt = X) (hk : q.toBitVec.toNat % 32 = k) : z.toInt = X / (2 ^ k : Nat) := by subst hz hx; exact c_ishr x q k hk
theorem n_iremV {x y z : Int32} (hz : z = x % y) (hx : 0 ≤ x.toInt) (hy : 0 < y.toInt) : 0 ≤ z.toInt ∧ z.toInt < y.toInt := by
  subst hz; have := (c_iremV x y).1 hx hy; omega
theorem nzI {y : Int32} (h : ¬ y.toInt = 0) : y ≠ 0 := fun q => h (by rw [q]; rfl)
theorem nzL {y : Int64} (h : ¬ y.toInt = 0) : y ≠ 0 := fun q => h (by rw [q]; rfl)
theorem b8 (x : Int32) : x.toInt8.toInt32.toInt8.toInt32 = x.toInt8.toInt32 := by simp
theorem eqI {x y : Int32} (h : x.toInt = y.toInt) : x = y := Int32.toInt_inj.mp h
theorem eqL {x y : Int64} (h : x.toInt = y.toInt) : x = y := Int64.toInt_inj.mp h
theorem ofI {x : Int32} {X : Int} (h : x.toInt = X) : x = Int32.ofInt X := by rw [← h]; exact (Int32.ofInt_toInt x).symm
theorem ofL {x : Int64} {X : Int} (h : x.toInt = X) : x = Int64.ofInt X := by rw [← h]; exact (Int64.ofInt_toInt x).symm
end Num
end Jvm.Own
namespace Jvm.Pilot.@@N@@
open Jvm Jvm.ClassFile Sem Op Lib Jvm.Free Jvm.Stand Jvm.LawKit Jvm.RoadKit Bundle Jvm.Pilot.@@N@@.Jvm.D
open Jvm.Own
theorem own_c16 (u : Int32) (h : 0 ≤ u.toInt ∧ u.toInt ≤ 15) : ∃ j : Fin 16, u = Int32.ofNat j.val ∧ u.toInt = j.val := by
  refine ⟨⟨u.toInt.toNat, by omega⟩, ?_, by show u.toInt = ((u.toInt.toNat : Nat) : Int); omega⟩
  apply Int32.toInt_inj.mp
  rw [Int32.toInt_ofNat_small (by show u.toInt.toNat < 2 ^ 31; omega)]
  show u.toInt = ((u.toInt.toNat : Nat) : Int); omega
theorem own_shr (g : Int64) (K : UInt64) (n : Nat) (hn : K.toNat % 64 = n) (h0 : 0 ≤ g.toInt) (h1 : g.toInt < ((2 ^ n : Nat) : Int)) : g.toUInt64 >>> K = 0 := by
  apply UInt64.toNat_inj.mp
  rw [UInt64.toNat_shiftRight, hn, Nat.shiftRight_eq_div_pow]
  have e : (g.toUInt64.toNat : Int) = g.toInt := by
    show (g.toBitVec.toNat : Int) = g.toBitVec.toInt
    have q : g.toBitVec.toInt = g.toInt := rfl
    rw [← q] at h0
    have b := g.toBitVec.isLt
    rw [BitVec.toInt_eq_toNat_cond] at h0 ⊢
    split <;> rename_i c <;> simp only [c] at h0 <;> simp at h0 <;> omega
  exact Nat.div_eq_of_lt (by omega)
def own_sh (u : Int32) : Int32 := (u <<< ((2 : Int32) &&& 31))
theorem own_sh_n : ∀ j : Fin 16, ((own_sh (Int32.ofNat j.val)) &&& 0x3f).toInt64.toUInt64.toNat % 64 = 4 * j.val := by decide +kernel
theorem own_dl (g : Int64) (u : Int32) (hu : 0 ≤ u.toInt ∧ u.toInt ≤ 15) (h0 : 0 ≤ g.toInt) (h1 : g.toInt < ((2 ^ (4 * u.toInt.toNat) : Nat) : Int)) : ((((g.toUInt64 >>> ((own_sh u) &&& 0x3f).toInt64.toUInt64).toInt64).toInt32) &&& (15 : Int32)) = 0 := by
  obtain ⟨j, rfl, hj⟩ := own_c16 u hu
  rw [hj] at h1
  rw [own_shr g _ _ (own_sh_n j) h0 h1]; rfl
theorem own_shl_n : ∀ (j : Fin 15) (k : Fin 16), ((Int32.ofNat k.val).toInt64 <<< ((own_sh (Int32.ofNat j.val)) &&& 0x3f).toInt64).toInt = ((k.val * 2 ^ (4 * j.val) : Nat) : Int) := by decide +kernel
theorem own_add (g : Int64) (x u : Int32) (hu : 0 ≤ u.toInt ∧ u.toInt < 15) (hx : 0 ≤ x.toInt ∧ x.toInt ≤ 15) (h0 : 0 ≤ g.toInt) (h1 : g.toInt < ((2 ^ (4 * u.toInt.toNat) : Nat) : Int)) : 0 ≤ (g + (x.toInt64 <<< ((own_sh u) &&& 0x3f).toInt64)).toInt ∧ (g + (x.toInt64 <<< ((own_sh u) &&& 0x3f).toInt64)).toInt < ((2 ^ (4 * (u.toInt.toNat + 1)) : Nat) : Int) := by
  obtain ⟨j, rfl, hj⟩ := own_c16 u ⟨hu.1, by omega⟩
  obtain ⟨k, rfl, hk⟩ := own_c16 x hx
  have hs := own_shl_n ⟨j.val, by omega⟩ k
  rw [hj] at h1 ⊢
  have hm : 2 ^ (4 * j.val) ≤ 2 ^ 56 := Nat.pow_le_pow_right (by decide) (by omega)
  have hp : (2 : Nat) ^ (4 * (((j.val : Nat) : Int).toNat + 1)) = 16 * 2 ^ (4 * j.val) := by
    rw [Int.toNat_natCast, Nat.mul_add, Nat.pow_add]; omega
  have hc : (((j.val : Nat) : Int)).toNat = j.val := Int.toNat_natCast _
  rw [hc] at h1
  rw [hp]
  obtain ⟨m, em⟩ : ∃ m : Nat, m = 2 ^ (4 * j.val) := ⟨_, rfl⟩
  rw [← em] at h1 hm hs ⊢
  have hkm : k.val * m ≤ 15 * m := Nat.mul_le_mul_right m (by omega)
  obtain ⟨y, ey⟩ : ∃ y : Nat, y = k.val * m := ⟨_, rfl⟩
  rw [← ey] at hs hkm
  obtain ⟨z, hz⟩ : ∃ z : Int64, z = g + ((Int32.ofNat k.val).toInt64 <<< ((own_sh (Int32.ofNat j.val)) &&& 0x3f).toInt64) := ⟨_, rfl⟩
  have tz := n_ladd hz rfl hs (by omega)
  rw [← hz]
  omega
theorem own_ov_n : ∀ (j : Fin 16) (k : Fin 256), ((((Int32.ofNat j.val) <<< ((8 : Int32) &&& 31)) ||| (Int32.ofNat k.val))).toInt = ((256 * j.val + k.val : Nat) : Int) := by decide +kernel
theorem own_ov (u x : Int32) (hu : 0 ≤ u.toInt ∧ u.toInt ≤ 15) (hx : 0 ≤ x.toInt ∧ x.toInt ≤ 255) : (((u <<< ((8 : Int32) &&& 31)) ||| x)).toInt = 256 * u.toInt + x.toInt := by
  obtain ⟨j, rfl, hj⟩ := own_c16 u hu
  have ex : x = Int32.ofNat x.toInt.toNat := by
    apply Int32.toInt_inj.mp
    rw [Int32.toInt_ofNat_small (by omega)]; omega
  have := own_ov_n j ⟨x.toInt.toNat, by omega⟩
  rw [hj, ← ex] at *
  simp only at this
  rw [← ex] at this
  rw [this]; omega
theorem own_key_n : ∀ j : Fin 16, ((Int32.ofNat j.val) <<< ((8 : Int32) &&& 31)).toInt = ((256 * j.val : Nat) : Int) := by decide +kernel
theorem own_key (u z : Int32) (hz : z = (u <<< ((8 : Int32) &&& 31))) (hu : 0 ≤ u.toInt ∧ u.toInt ≤ 15) : z.toInt = 256 * u.toInt := by
  obtain ⟨j, rfl, hj⟩ := own_c16 u hu
  rw [hz, own_key_n j, hj]; omega
theorem own_wl_n : ∀ j : Fin 16, ((Int32.ofNat j.val) <<< ((4 : Int32) &&& 31)).toInt = ((16 * j.val : Nat) : Int) := by decide +kernel
theorem own_neg (x : Int32) (h : -2147483647 ≤ x.toInt) : (-x).toInt = - x.toInt := by
  have q1 := c_ineg x; have q2 := rng32 (-x); have q3 := rng32 x
  omega
theorem own_or (x y : Int32) : 0 ≤ (x ||| y).toInt ↔ 0 ≤ x.toInt ∧ 0 ≤ y.toInt := by
  have key : ∀ b : BitVec 32, 0 ≤ b.toInt ↔ b.msb = false := fun b => by rw [BitVec.msb_eq_toInt]; simp
  show 0 ≤ ((x ||| y).toBitVec).toInt ↔ 0 ≤ x.toBitVec.toInt ∧ 0 ≤ y.toBitVec.toInt
  rw [key, key, key, Int32.toBitVec_or, BitVec.msb_or]; simp
theorem own_or3 (x y z : Int32) : 0 ≤ ((x ||| y) ||| z).toInt ↔ 0 ≤ x.toInt ∧ 0 ≤ y.toInt ∧ 0 ≤ z.toInt := by
  rw [own_or, own_or]; constructor
  · rintro ⟨⟨q1, q2⟩, q3⟩; exact ⟨q1, q2, q3⟩
  · rintro ⟨q1, q2, q3⟩; exact ⟨⟨q1, q2⟩, q3⟩
theorem own_len_n : ∀ j : Fin 4, ((1 : Int32) <<< ((Int32.ofNat (j.val + 4) - (4 : Int32)) &&& 31)).toInt = ((2 ^ j.val : Nat) : Int) := by decide +kernel
theorem own_c4 (u : Int32) (h : 4 ≤ u.toInt ∧ u.toInt ≤ 7) : ∃ j : Fin 4, u = Int32.ofNat (j.val + 4) ∧ u.toInt = j.val + 4 := by
  refine ⟨⟨u.toInt.toNat - 4, by omega⟩, ?_, by show u.toInt = ((u.toInt.toNat - 4 : Nat) : Int) + 4; omega⟩
  apply Int32.toInt_inj.mp
  rw [Int32.toInt_ofNat_small (by show u.toInt.toNat - 4 + 4 < 2 ^ 31; omega)]
  show u.toInt = ((u.toInt.toNat - 4 + 4 : Nat) : Int); omega
theorem own_thr_n : ∀ j : Fin 4, ((1 : Int32) <<< (((Int32.ofNat (j.val + 4)) / (2 : Int32)) &&& 31)).toInt = if j.val < 2 then 4 else 8 := by decide +kernel
def own_D (Z : State) (n0 : Nat) (h : Heap) (a : Addr) (wa oa : Addr) (pr vb ab al : Int32) (sm : Int64) (wl : Nat) (gw : Nat → Int64) (k : Nat) (go : Nat → Int32) : Prop := Exa Z h a "com/example/thrifty_tally/thriftytally/DenseRegisters" ∧ Fld Z h a "com/example/thrifty_tally/thriftytally/DenseRegisters" "precision" "I" (.int pr) ∧ Fld Z h a "com/example/thrifty_tally/thriftytally/DenseRegisters" "valueBits" "I" (.int vb) ∧ Fld Z h a "com/example/thrifty_tally/thriftytally/DenseRegisters" "words" "[J" (.ref wa) ∧ Fld Z h a "com/example/thrifty_tally/thriftytally/DenseRegisters" "baseline" "I" (.int (0 : Int32)) ∧ Fld Z h a "com/example/thrifty_tally/thriftytally/DenseRegisters" "atBaseline" "I" (.int ab) ∧ Fld Z h a "com/example/thrifty_tally/thriftytally/DenseRegisters" "atLargest" "I" (.int al) ∧ Fld Z h a "com/example/thrifty_tally/thriftytally/DenseRegisters" "overflows" "[I" (.ref oa) ∧ Fld Z h a "com/example/thrifty_tally/thriftytally/DenseRegisters" "sum" "J" (.long sm) ∧ ARJ Z h wa wl gw ∧ ARI Z h oa .int k go ∧ n0 ≤ a ∧ n0 ≤ wa ∧ a ≠ wa ∧ a ≠ oa ∧ wa ≠ oa
theorem d8_0 : decode prog_1_method_36_code 0 = .ok (.iload_n 0, 1) := by decide +kernel
theorem d8_1 : decode prog_1_method_36_code 1 = .ok (.iconst 2, 1) := by decide +kernel
theorem d8_2 : decode prog_1_method_36_code 2 = .ok (.ishl, 1) := by decide +kernel
theorem d8_3 : decode prog_1_method_36_code 3 = .ok (.ireturn, 1) := by decide +kernel
theorem ef_8 (m : MethodId) (u : Int32) : entryFrame m #[(.int u)] 1 = mkF m 0 #[.val (.int u)] [] := by first | (simp [entryFrame, mkF, argsToLocals, Value.category]; done) | rfl
theorem pn_0 : plainName "com/example/thrifty_tally/thriftytally/DenseRegisters" = true := by first | (simp [plainName, overriddenIn]; done) | decide +kernel
abbrev rm_c_shift : Room := { frames := 0, cells := 0, slots := 0, locals := 0 }
set_option maxRecDepth 65536 in
set_option maxHeartbeats 40000000 in
theorem c_shift (l : Launch) (Z : State) (a0 : Array Value) (hw : ∀ d ∈ tables_1, d.before a0 Z = true) (u : Int32)  (h0 : Heap) (n0 : Nat) (low : n0 ≤ h0.size)  :
    Meth l Z (⟨"com/example/thrifty_tally/thriftytally/DenseRegisters", "deltaShift", "(I)I"⟩ : MethodName) prog_1_method_36_code 1 (some .int) rm_c_shift #[(.int u)] h0 n0 (Ret (.int (own_sh u)) h0) := by
  refine Meth.of (plainFor_of_name pn_0) low ?_
  intro p e s m args below meth c T P
  refine Ends.cast (ef_8 m u) ?_
  refine iloadN P d8_0 rfl (n := 1) rfl ?_
  refine iconst P d8_1 (x := (2 : Int32)) rfl (n := 2) rfl ?_
  refine ishl P d8_2 (n := 3) rfl ?_
  refine retI P d8_3 (by decide) (by decide) ?_
  exact Ret.ofI rfl
theorem d7_0 : decode prog_1_method_35_code 0 = .ok (.aload_n 0, 1) := by decide +kernel
theorem d7_1 : decode prog_1_method_35_code 1 = .ok (.getfield 47, 3) := by decide +kernel
theorem d7_4 : decode prog_1_method_35_code 4 = .ok (.iload_n 1, 1) := by decide +kernel
theorem d7_5 : decode prog_1_method_35_code 5 = .ok (.iconst 4, 1) := by decide +kernel
theorem d7_6 : decode prog_1_method_35_code 6 = .ok (.iushr, 1) := by decide +kernel
theorem d7_7 : decode prog_1_method_35_code 7 = .ok (.laload, 1) := by decide +kernel
theorem d7_8 : decode prog_1_method_35_code 8 = .ok (.iload_n 1, 1) := by decide +kernel
theorem d7_9 : decode prog_1_method_35_code 9 = .ok (.invokestatic 99, 3) := by decide +kernel
theorem d7_12 : decode prog_1_method_35_code 12 = .ok (.lushr, 1) := by decide +kernel
theorem d7_13 : decode prog_1_method_35_code 13 = .ok (.l2i, 1) := by decide +kernel
theorem d7_14 : decode prog_1_method_35_code 14 = .ok (.bipush 15, 2) := by decide +kernel
theorem d7_16 : decode prog_1_method_35_code 16 = .ok (.iand, 1) := by decide +kernel
theorem d7_17 : decode prog_1_method_35_code 17 = .ok (.ireturn, 1) := by decide +kernel
theorem ef_7 (m : MethodId) (a : Addr) (u : Int32) : entryFrame m #[(.ref a), (.int u)] 2 = mkF m 0 #[.val (.ref a), .val (.int u)] [] := by first | (simp [entryFrame, mkF, argsToLocals, Value.category]; done) | rfl
theorem pd_0 : parseMethodDescriptor "(I)I" = some ⟨[.int], some .int⟩ := by decide +kernel
abbrev rm_c_delta : Room := { frames := 1, cells := 0, slots := 0, locals := 14 }
set_option maxRecDepth 65536 in
set_option maxHeartbeats 40000000 in
theorem c_delta (l : Launch) (Z : State) (a0 : Array Value) (hw : ∀ d ∈ tables_1, d.before a0 Z = true) (a : Addr) (u : Int32) (wa oa : Addr) (pr vb ab al : Int32) (sm : Int64) (wl : Nat) (gw : Nat → Int64) (k : Nat) (go : Nat → Int32) (h0 : Heap) (n0 : Nat) (low : n0 ≤ h0.size) (D : own_D Z n0 h0 a wa oa pr vb ab al sm wl gw k go) (hu : 0 ≤ u.toInt ∧ u.toInt ≤ 15) (hw0 : 1 ≤ wl) (hg : 0 ≤ (gw 0).toInt ∧ (gw 0).toInt < ((2 ^ (4 * u.toInt.toNat) : Nat) : Int)) :
    Meth l Z (⟨"com/example/thrifty_tally/thriftytally/DenseRegisters", "delta", "(I)I"⟩ : MethodName) prog_1_method_35_code 2 (some .int) rm_c_delta #[(.ref a), (.int u)] h0 n0 (Ret (.int (0 : Int32)) h0) := by
  refine Meth.of (plainFor_of_name pn_0) low ?_
  intro p e s m args below meth c T P
  refine Ends.cast (ef_7 m a u) ?_
  have eL0 : (0 : Int32).toInt = 0 := rfl
  have eL15 : (15 : Int32).toInt = 15 := rfl
  obtain ⟨E_a, F_p, F_vb, F_w, F_b, F_ab, F_al, F_o, F_s, A_w, A_o, lo_a, lo_w, n1, n2, n3⟩ := D
  refine aloadN P d7_0 rfl rfl (n := 1) rfl ?_
  refine getF P d7_1 (hw _ (List.mem_of_getElem? (i := 25) rfl)) F_w (n := 4) rfl ?_
  intro T P
  refine iloadN P d7_4 rfl (n := 5) rfl ?_
  refine iconst P d7_5 (x := (4 : Int32)) rfl (n := 6) rfl ?_
  refine iushr P d7_6 (n := 7) rfl ?_
  refine nameI (x := ((u.toUInt32 >>> ((4 : Int32) &&& 31).toUInt32).toInt32)) (F := fun z1 => Jvm.Own.Ends p e below s rm_c_delta n0 (Ret (.int (0 : Int32)) h0) T (mkF m 7 #[.val (.ref a), .val (.int u)] [(.int z1), (.ref wa)])) ?_
  intro z1 hz1
  have tz1 : z1.toInt = (u.toInt % 4294967296) / 16 := n_iushr 4 hz1 rfl (by decide)
  refine laloadJ P d7_7 A_w (u := 0) ⟨by omega, by omega⟩ (n := 8) rfl ?_
  refine iloadN P d7_8 rfl (n := 9) rfl ?_
  refine callS P d7_9 (argsL := [(.int u)]) (rest := [(.long (gw 0))]) (c_shift l Z a0 hw u  h0 n0 P.low ) (hw _ (List.mem_of_getElem? (i := 47) rfl)) (hw _ (List.mem_of_getElem? (i := 48) rfl)) (hw _ (List.mem_of_getElem? (i := 7) rfl)) (hw _ (List.mem_of_getElem? (i := 49) rfl)) (by decide) pd_0 rfl rfl rfl ⟨by decide, Nat.le_of_ble_eq_true rfl, by decide, by decide⟩ (n := 12) rfl (Ret.on ?_)
  intro T P
  refine lushr P d7_12 (n := 13) rfl ?_
  refine l2i P d7_13 (n := 14) rfl ?_
  refine bipush P d7_14 (x := (15 : Int32)) rfl (n := 16) rfl ?_
  refine iand P d7_16 (n := 17) rfl ?_
  refine retI P d7_17 (by decide) (by decide) ?_
  exact Ret.ofI (own_dl _ u hu hg.1 hg.2)
theorem d9_0 : decode prog_1_method_34_code 0 = .ok (.lconst 1, 1) := by decide +kernel
theorem d9_1 : decode prog_1_method_34_code 1 = .ok (.aload_n 0, 1) := by decide +kernel
theorem d9_2 : decode prog_1_method_34_code 2 = .ok (.getfield 38, 3) := by decide +kernel
theorem d9_5 : decode prog_1_method_34_code 5 = .ok (.iload_n 1, 1) := by decide +kernel
theorem d9_6 : decode prog_1_method_34_code 6 = .ok (.isub, 1) := by decide +kernel
theorem d9_7 : decode prog_1_method_34_code 7 = .ok (.lshl, 1) := by decide +kernel
theorem d9_8 : decode prog_1_method_34_code 8 = .ok (.lreturn, 1) := by decide +kernel
theorem ef_9 (m : MethodId) (a : Addr) (u : Int32) : entryFrame m #[(.ref a), (.int u)] 2 = mkF m 0 #[.val (.ref a), .val (.int u)] [] := by first | (simp [entryFrame, mkF, argsToLocals, Value.category]; done) | rfl
abbrev rm_c_term : Room := { frames := 0, cells := 0, slots := 0, locals := 0 }
set_option maxRecDepth 65536 in
set_option maxHeartbeats 40000000 in
theorem c_term (l : Launch) (Z : State) (a0 : Array Value) (hw : ∀ d ∈ tables_1, d.before a0 Z = true) (a : Addr) (u : Int32) (vb : Int32) (h0 : Heap) (n0 : Nat) (low : n0 ≤ h0.size) (F_vb : Fld Z h0 a "com/example/thrifty_tally/thriftytally/DenseRegisters" "valueBits" "I" (.int vb)) :
    Meth l Z (⟨"com/example/thrifty_tally/thriftytally/DenseRegisters", "termBelowLargest", "(I)J"⟩ : MethodName) prog_1_method_34_code 2 (some .long) rm_c_term #[(.ref a), (.int u)] h0 n0 (RetJ (fun _ => True) h0) := by
  refine Meth.of (plainFor_of_name pn_0) low ?_
  intro p e s m args below meth c T P
  refine Ends.cast (ef_9 m a u) ?_
  refine lconst P d9_0 (x := (1 : Int64)) rfl (n := 1) rfl ?_
  refine aloadN P d9_1 rfl rfl (n := 2) rfl ?_
  refine getF P d9_2 (hw _ (List.mem_of_getElem? (i := 20) rfl)) F_vb (n := 5) rfl ?_
  intro T P
  refine iloadN P d9_5 rfl (n := 6) rfl ?_
  refine isub P d9_6 (n := 7) rfl ?_
  refine lshl P d9_7 (n := 8) rfl ?_
  refine retL P d9_8 (by decide) (by decide) ?_
  exact RetJ.mk trivial
theorem d13_0 : decode prog_1_method_33_code 0 = .ok (.aload_n 0, 1) := by decide +kernel
theorem d13_1 : decode prog_1_method_33_code 1 = .ok (.dup, 1) := by decide +kernel
theorem d13_2 : decode prog_1_method_33_code 2 = .ok (.getfield 92, 3) := by decide +kernel
theorem d13_5 : decode prog_1_method_33_code 5 = .ok (.aload_n 0, 1) := by decide +kernel
theorem d13_6 : decode prog_1_method_33_code 6 = .ok (.iload_n 1, 1) := by decide +kernel
theorem d13_7 : decode prog_1_method_33_code 7 = .ok (.invokevirtual 95, 3) := by decide +kernel
theorem d13_10 : decode prog_1_method_33_code 10 = .ok (.lsub, 1) := by decide +kernel
theorem d13_11 : decode prog_1_method_33_code 11 = .ok (.putfield 92, 3) := by decide +kernel
theorem d13_14 : decode prog_1_method_33_code 14 = .ok (.iload_n 2, 1) := by decide +kernel
theorem d13_15 : decode prog_1_method_33_code 15 = .ok (.aload_n 0, 1) := by decide +kernel
theorem d13_16 : decode prog_1_method_33_code 16 = .ok (.getfield 38, 3) := by decide +kernel
theorem d13_19 : decode prog_1_method_33_code 19 = .ok (.if_icmp .gt 20, 3) := by decide +kernel
theorem d13_22 : decode prog_1_method_33_code 22 = .ok (.aload_n 0, 1) := by decide +kernel
theorem d13_23 : decode prog_1_method_33_code 23 = .ok (.dup, 1) := by decide +kernel
theorem d13_24 : decode prog_1_method_33_code 24 = .ok (.getfield 92, 3) := by decide +kernel
theorem d13_27 : decode prog_1_method_33_code 27 = .ok (.aload_n 0, 1) := by decide +kernel
theorem d13_28 : decode prog_1_method_33_code 28 = .ok (.iload_n 2, 1) := by decide +kernel
theorem d13_29 : decode prog_1_method_33_code 29 = .ok (.invokevirtual 95, 3) := by decide +kernel
theorem d13_32 : decode prog_1_method_33_code 32 = .ok (.ladd, 1) := by decide +kernel
theorem d13_33 : decode prog_1_method_33_code 33 = .ok (.putfield 92, 3) := by decide +kernel
theorem d13_36 : decode prog_1_method_33_code 36 = .ok (.goto 13, 3) := by decide +kernel
theorem d13_39 : decode prog_1_method_33_code 39 = .ok (.aload_n 0, 1) := by decide +kernel
theorem d13_40 : decode prog_1_method_33_code 40 = .ok (.dup, 1) := by decide +kernel
theorem d13_41 : decode prog_1_method_33_code 41 = .ok (.getfield 115, 3) := by decide +kernel
theorem d13_44 : decode prog_1_method_33_code 44 = .ok (.iconst 1, 1) := by decide +kernel
theorem d13_45 : decode prog_1_method_33_code 45 = .ok (.iadd, 1) := by decide +kernel
theorem d13_46 : decode prog_1_method_33_code 46 = .ok (.putfield 115, 3) := by decide +kernel
theorem d13_49 : decode prog_1_method_33_code 49 = .ok (.return_, 1) := by decide +kernel
theorem ef_13 (m : MethodId) (a : Addr) (u : Int32) (w : Int32) : entryFrame m #[(.ref a), (.int u), (.int w)] 3 = mkF m 0 #[.val (.ref a), .val (.int u), .val (.int w)] [] := by first | (simp [entryFrame, mkF, argsToLocals, Value.category]; done) | rfl
theorem pd_1 : parseMethodDescriptor "(I)J" = some ⟨[.int], some .long⟩ := by decide +kernel
abbrev rm_c_note : Room := { frames := 1, cells := 0, slots := 0, locals := 16 }
set_option maxRecDepth 65536 in
set_option maxHeartbeats 40000000 in
theorem c_note (l : Launch) (Z : State) (a0 : Array Value) (hw : ∀ d ∈ tables_1, d.before a0 Z = true) (a : Addr) (u : Int32) (w : Int32) (wa oa : Addr) (pr vb ab al : Int32) (sm : Int64) (wl : Nat) (gw : Nat → Int64) (k : Nat) (go : Nat → Int32) (h0 : Heap) (n0 : Nat) (low : n0 ≤ h0.size) (D : own_D Z n0 h0 a wa oa pr vb ab al sm wl gw k go) :
    Meth l Z (⟨"com/example/thrifty_tally/thriftytally/DenseRegisters", "noteRaise", "(II)V"⟩ : MethodName) prog_1_method_33_code 3 none rm_c_note #[(.ref a), (.int u), (.int w)] h0 n0 (fun v h => v = none ∧ ∃ (al' : Int32) (sm' : Int64), own_D Z n0 h a wa oa pr vb ab al' sm' wl gw k go) := by
  refine Meth.of (plainFor_of_name pn_0) low ?_
  intro p e s m args below meth c T P
  refine Ends.cast (ef_13 m a u w) ?_
  have eL0 : (0 : Int32).toInt = 0 := rfl
  have eL15 : (15 : Int32).toInt = 15 := rfl
  obtain ⟨E_a, F_p, F_vb, F_w, F_b, F_ab, F_al, F_o, F_s, A_w, A_o, lo_a, lo_w, n1, n2, n3⟩ := D
  refine aloadN P d13_0 rfl rfl (n := 1) rfl ?_
  refine dup P d13_1 rfl (n := 2) rfl ?_
  refine getF P d13_2 (hw _ (List.mem_of_getElem? (i := 52) rfl)) F_s (n := 5) rfl ?_
  intro T P
  refine aloadN P d13_5 rfl rfl (n := 6) rfl ?_
  refine iloadN P d13_6 rfl (n := 7) rfl ?_
  refine callP P d13_7 (a := a) (argsL := [(.int u)]) (rest := [(.long sm), (.ref a)]) (c_term l Z a0 hw a u vb h0 n0 P.low F_vb) E_a (hw _ (List.mem_of_getElem? (i := 54) rfl)) (hw _ (List.mem_of_getElem? (i := 55) rfl)) (hw _ (List.mem_of_getElem? (i := 6) rfl)) (hw _ (List.mem_of_getElem? (i := 56) rfl)) (hw _ (List.mem_of_getElem? (i := 7) rfl)) (hw _ (List.mem_of_getElem? (i := 57) rfl)) (by decide) pd_1 rfl rfl rfl ⟨by decide, Nat.le_of_ble_eq_true rfl, by decide, by decide⟩ (n := 10) rfl (RetJ.on ?_)
  intro T r1 P _
  refine lsub P d13_10 (n := 11) rfl ?_
  refine putF P d13_11 (hw _ (List.mem_of_getElem? (i := 52) rfl)) F_s E_a (Or.inl (hw _ (List.mem_of_getElem? (i := 53) rfl))) (hw _ (List.mem_of_getElem? (i := 6) rfl)) (ty := .long) (by decide) rfl rfl lo_a (n := 14) rfl ?_
  intro T h2 P W3
  replace E_a := Exa.wr W3 E_a
  replace F_p := Fld.other W3 F_p (Or.inr (slot_ne (Or.inr (hw _ (List.mem_of_getElem? (i := 19) rfl))) (Or.inl (hw _ (List.mem_of_getElem? (i := 53) rfl))) (by decide) (t := .int) (t' := .long) (by decide) (by decide)))
  replace F_vb := Fld.other W3 F_vb (Or.inr (slot_ne (Or.inr (hw _ (List.mem_of_getElem? (i := 21) rfl))) (Or.inl (hw _ (List.mem_of_getElem? (i := 53) rfl))) (by decide) (t := .int) (t' := .long) (by decide) (by decide)))
  replace F_w := Fld.other W3 F_w (Or.inr (slot_ne (Or.inr (hw _ (List.mem_of_getElem? (i := 26) rfl))) (Or.inl (hw _ (List.mem_of_getElem? (i := 53) rfl))) (by decide) (t := (.array .long)) (t' := .long) (by decide) (by decide)))
  replace F_b := Fld.other W3 F_b (Or.inr (slot_ne (Or.inl (hw _ (List.mem_of_getElem? (i := 51) rfl))) (Or.inl (hw _ (List.mem_of_getElem? (i := 53) rfl))) (by decide) (t := .int) (t' := .long) (by decide) (by decide)))
  replace F_ab := Fld.other W3 F_ab (Or.inr (slot_ne (Or.inl (hw _ (List.mem_of_getElem? (i := 37) rfl))) (Or.inl (hw _ (List.mem_of_getElem? (i := 53) rfl))) (by decide) (t := .int) (t' := .long) (by decide) (by decide)))
  replace F_al := Fld.other W3 F_al (Or.inr (slot_ne (Or.inl (hw _ (List.mem_of_getElem? (i := 106) rfl))) (Or.inl (hw _ (List.mem_of_getElem? (i := 53) rfl))) (by decide) (t := .int) (t' := .long) (by decide) (by decide)))
  replace F_o := Fld.other W3 F_o (Or.inr (slot_ne (Or.inl (hw _ (List.mem_of_getElem? (i := 30) rfl))) (Or.inl (hw _ (List.mem_of_getElem? (i := 53) rfl))) (by decide) (t := (.array .int)) (t' := .long) (by decide) (by decide)))
  replace A_w := A_w.other W3 (Ne.symm n1)
  replace A_o := A_o.other W3 (Ne.symm n2)
  replace F_s := Fld.same W3 F_s
  refine iloadN P d13_14 rfl (n := 15) rfl ?_
  refine aloadN P d13_15 rfl rfl (n := 16) rfl ?_
  refine getF P d13_16 (hw _ (List.mem_of_getElem? (i := 20) rfl)) F_vb (n := 19) rfl ?_
  intro T P
  refine icmp_gt P d13_19 (n' := 39) (n := 22) (by decide) rfl (fun hc19 => ?_) (fun hc19 => ?_)
  · -- pc 19 taken
    refine aloadN P d13_39 rfl rfl (n := 40) rfl ?_
    refine dup P d13_40 rfl (n := 41) rfl ?_
    refine getF P d13_41 (hw _ (List.mem_of_getElem? (i := 105) rfl)) F_al (n := 44) rfl ?_
    intro T P
    refine iconst P d13_44 (x := (1 : Int32)) rfl (n := 45) rfl ?_
    refine iadd P d13_45 (n := 46) rfl ?_
    refine putF P d13_46 (hw _ (List.mem_of_getElem? (i := 105) rfl)) F_al E_a (Or.inl (hw _ (List.mem_of_getElem? (i := 106) rfl))) (hw _ (List.mem_of_getElem? (i := 6) rfl)) (ty := .int) (by decide) rfl rfl lo_a (n := 49) rfl ?_
    intro T h4 P W5
    replace E_a := Exa.wr W5 E_a
    replace F_p := Fld.other W5 F_p (Or.inr (slot_ne (Or.inr (hw _ (List.mem_of_getElem? (i := 19) rfl))) (Or.inl (hw _ (List.mem_of_getElem? (i := 106) rfl))) (by decide) (t := .int) (t' := .int) (by decide) (by decide)))
    replace F_vb := Fld.other W5 F_vb (Or.inr (slot_ne (Or.inr (hw _ (List.mem_of_getElem? (i := 21) rfl))) (Or.inl (hw _ (List.mem_of_getElem? (i := 106) rfl))) (by decide) (t := .int) (t' := .int) (by decide) (by decide)))
    replace F_w := Fld.other W5 F_w (Or.inr (slot_ne (Or.inr (hw _ (List.mem_of_getElem? (i := 26) rfl))) (Or.inl (hw _ (List.mem_of_getElem? (i := 106) rfl))) (by decide) (t := (.array .long)) (t' := .int) (by decide) (by decide)))
    replace F_b := Fld.other W5 F_b (Or.inr (slot_ne (Or.inl (hw _ (List.mem_of_getElem? (i := 51) rfl))) (Or.inl (hw _ (List.mem_of_getElem? (i := 106) rfl))) (by decide) (t := .int) (t' := .int) (by decide) (by decide)))
    replace F_ab := Fld.other W5 F_ab (Or.inr (slot_ne (Or.inl (hw _ (List.mem_of_getElem? (i := 37) rfl))) (Or.inl (hw _ (List.mem_of_getElem? (i := 106) rfl))) (by decide) (t := .int) (t' := .int) (by decide) (by decide)))
    replace F_o := Fld.other W5 F_o (Or.inr (slot_ne (Or.inl (hw _ (List.mem_of_getElem? (i := 30) rfl))) (Or.inl (hw _ (List.mem_of_getElem? (i := 106) rfl))) (by decide) (t := (.array .int)) (t' := .int) (by decide) (by decide)))
    replace F_s := Fld.other W5 F_s (Or.inr (slot_ne (Or.inl (hw _ (List.mem_of_getElem? (i := 53) rfl))) (Or.inl (hw _ (List.mem_of_getElem? (i := 106) rfl))) (by decide) (t := .long) (t' := .int) (by decide) (by decide)))
    replace A_w := A_w.other W5 (Ne.symm n1)
    replace A_o := A_o.other W5 (Ne.symm n2)
    replace F_al := Fld.same W5 F_al
    refine retV P d13_49 (by decide) (by decide) ?_
    have D9 : own_D Z n0 h4 a (wa) (oa) (pr) (vb) (ab) ((al + (1 : Int32))) ((sm - r1)) (wl) (gw) (k) (go) := ⟨E_a, F_p, F_vb, F_w, F_b, F_ab, F_al, F_o, F_s, A_w, A_o, lo_a, lo_w, n1, n2, n3⟩
    exact ⟨rfl, (al + (1 : Int32)), (sm - r1), D9⟩
  · -- pc 19 not taken
    refine aloadN P d13_22 rfl rfl (n := 23) rfl ?_
    refine dup P d13_23 rfl (n := 24) rfl ?_
    refine getF P d13_24 (hw _ (List.mem_of_getElem? (i := 52) rfl)) F_s (n := 27) rfl ?_
    intro T P
    refine aloadN P d13_27 rfl rfl (n := 28) rfl ?_
    refine iloadN P d13_28 rfl (n := 29) rfl ?_
    refine callP P d13_29 (a := a) (argsL := [(.int w)]) (rest := [(.long (sm - r1)), (.ref a)]) (c_term l Z a0 hw a w vb h2 n0 P.low F_vb) E_a (hw _ (List.mem_of_getElem? (i := 54) rfl)) (hw _ (List.mem_of_getElem? (i := 55) rfl)) (hw _ (List.mem_of_getElem? (i := 6) rfl)) (hw _ (List.mem_of_getElem? (i := 56) rfl)) (hw _ (List.mem_of_getElem? (i := 7) rfl)) (hw _ (List.mem_of_getElem? (i := 57) rfl)) (by decide) pd_1 rfl rfl rfl ⟨by decide, Nat.le_of_ble_eq_true rfl, by decide, by decide⟩ (n := 32) rfl (RetJ.on ?_)
    intro T r6 P _
    refine ladd P d13_32 (n := 33) rfl ?_
    refine putF P d13_33 (hw _ (List.mem_of_getElem? (i := 52) rfl)) F_s E_a (Or.inl (hw _ (List.mem_of_getElem? (i := 53) rfl))) (hw _ (List.mem_of_getElem? (i := 6) rfl)) (ty := .long) (by decide) rfl rfl lo_a (n := 36) rfl ?_
    intro T h7 P W8
    replace E_a := Exa.wr W8 E_a
    replace F_p := Fld.other W8 F_p (Or.inr (slot_ne (Or.inr (hw _ (List.mem_of_getElem? (i := 19) rfl))) (Or.inl (hw _ (List.mem_of_getElem? (i := 53) rfl))) (by decide) (t := .int) (t' := .long) (by decide) (by decide)))
    replace F_vb := Fld.other W8 F_vb (Or.inr (slot_ne (Or.inr (hw _ (List.mem_of_getElem? (i := 21) rfl))) (Or.inl (hw _ (List.mem_of_getElem? (i := 53) rfl))) (by decide) (t := .int) (t' := .long) (by decide) (by decide)))
    replace F_w := Fld.other W8 F_w (Or.inr (slot_ne (Or.inr (hw _ (List.mem_of_getElem? (i := 26) rfl))) (Or.inl (hw _ (List.mem_of_getElem? (i := 53) rfl))) (by decide) (t := (.array .long)) (t' := .long) (by decide) (by decide)))
    replace F_b := Fld.other W8 F_b (Or.inr (slot_ne (Or.inl (hw _ (List.mem_of_getElem? (i := 51) rfl))) (Or.inl (hw _ (List.mem_of_getElem? (i := 53) rfl))) (by decide) (t := .int) (t' := .long) (by decide) (by decide)))
    replace F_ab := Fld.other W8 F_ab (Or.inr (slot_ne (Or.inl (hw _ (List.mem_of_getElem? (i := 37) rfl))) (Or.inl (hw _ (List.mem_of_getElem? (i := 53) rfl))) (by decide) (t := .int) (t' := .long) (by decide) (by decide)))
    replace F_al := Fld.other W8 F_al (Or.inr (slot_ne (Or.inl (hw _ (List.mem_of_getElem? (i := 106) rfl))) (Or.inl (hw _ (List.mem_of_getElem? (i := 53) rfl))) (by decide) (t := .int) (t' := .long) (by decide) (by decide)))
    replace F_o := Fld.other W8 F_o (Or.inr (slot_ne (Or.inl (hw _ (List.mem_of_getElem? (i := 30) rfl))) (Or.inl (hw _ (List.mem_of_getElem? (i := 53) rfl))) (by decide) (t := (.array .int)) (t' := .long) (by decide) (by decide)))
    replace A_w := A_w.other W8 (Ne.symm n1)
    replace A_o := A_o.other W8 (Ne.symm n2)
    replace F_s := Fld.same W8 F_s
    refine goto P d13_36 (n := 49) (by decide) ?_
    refine retV P d13_49 (by decide) (by decide) ?_
    have D9 : own_D Z n0 h7 a (wa) (oa) (pr) (vb) (ab) (al) (((sm - r1) + r6)) (wl) (gw) (k) (go) := ⟨E_a, F_p, F_vb, F_w, F_b, F_ab, F_al, F_o, F_s, A_w, A_o, lo_a, lo_w, n1, n2, n3⟩
    exact ⟨rfl, al, ((sm - r1) + r6), D9⟩
theorem d18_0 : decode jdk_65_method_59_code 0 = .ok (.iload_n 1, 1) := by decide +kernel
theorem d18_1 : decode jdk_65_method_59_code 1 = .ok (.istore 4, 2) := by decide +kernel
theorem d18_3 : decode jdk_65_method_59_code 3 = .ok (.iload_n 2, 1) := by decide +kernel
theorem d18_4 : decode jdk_65_method_59_code 4 = .ok (.iconst 1, 1) := by decide +kernel
theorem d18_5 : decode jdk_65_method_59_code 5 = .ok (.isub, 1) := by decide +kernel
theorem d18_6 : decode jdk_65_method_59_code 6 = .ok (.istore 5, 2) := by decide +kernel
theorem d18_8 : decode jdk_65_method_59_code 8 = .ok (.iload 4, 2) := by decide +kernel
theorem d18_10 : decode jdk_65_method_59_code 10 = .ok (.iload 5, 2) := by decide +kernel
theorem d18_12 : decode jdk_65_method_59_code 12 = .ok (.if_icmp .gt 54, 3) := by decide +kernel
theorem d18_15 : decode jdk_65_method_59_code 15 = .ok (.iload 4, 2) := by decide +kernel
theorem d18_17 : decode jdk_65_method_59_code 17 = .ok (.iload 5, 2) := by decide +kernel
theorem d18_19 : decode jdk_65_method_59_code 19 = .ok (.iadd, 1) := by decide +kernel
theorem d18_20 : decode jdk_65_method_59_code 20 = .ok (.iconst 1, 1) := by decide +kernel
theorem d18_21 : decode jdk_65_method_59_code 21 = .ok (.iushr, 1) := by decide +kernel
theorem d18_22 : decode jdk_65_method_59_code 22 = .ok (.istore 6, 2) := by decide +kernel
theorem d18_24 : decode jdk_65_method_59_code 24 = .ok (.aload_n 0, 1) := by decide +kernel
theorem d18_25 : decode jdk_65_method_59_code 25 = .ok (.iload 6, 2) := by decide +kernel
theorem d18_27 : decode jdk_65_method_59_code 27 = .ok (.iaload, 1) := by decide +kernel
theorem d18_28 : decode jdk_65_method_59_code 28 = .ok (.istore 7, 2) := by decide +kernel
theorem d18_30 : decode jdk_65_method_59_code 30 = .ok (.iload 7, 2) := by decide +kernel
theorem d18_32 : decode jdk_65_method_59_code 32 = .ok (.iload_n 3, 1) := by decide +kernel
theorem d18_33 : decode jdk_65_method_59_code 33 = .ok (.if_icmp .ge 12, 3) := by decide +kernel
theorem d18_36 : decode jdk_65_method_59_code 36 = .ok (.iload 6, 2) := by decide +kernel
theorem d18_38 : decode jdk_65_method_59_code 38 = .ok (.iconst 1, 1) := by decide +kernel
theorem d18_39 : decode jdk_65_method_59_code 39 = .ok (.iadd, 1) := by decide +kernel
theorem d18_40 : decode jdk_65_method_59_code 40 = .ok (.istore 4, 2) := by decide +kernel
theorem d18_42 : decode jdk_65_method_59_code 42 = .ok (.goto 21, 3) := by decide +kernel
theorem d18_45 : decode jdk_65_method_59_code 45 = .ok (.iload 7, 2) := by decide +kernel
theorem d18_47 : decode jdk_65_method_59_code 47 = .ok (.iload_n 3, 1) := by decide +kernel
theorem d18_48 : decode jdk_65_method_59_code 48 = .ok (.if_icmp .le 12, 3) := by decide +kernel
theorem d18_51 : decode jdk_65_method_59_code 51 = .ok (.iload 6, 2) := by decide +kernel
theorem d18_53 : decode jdk_65_method_59_code 53 = .ok (.iconst 1, 1) := by decide +kernel
theorem d18_54 : decode jdk_65_method_59_code 54 = .ok (.isub, 1) := by decide +kernel
theorem d18_55 : decode jdk_65_method_59_code 55 = .ok (.istore 5, 2) := by decide +kernel
theorem d18_57 : decode jdk_65_method_59_code 57 = .ok (.goto 6, 3) := by decide +kernel
theorem d18_60 : decode jdk_65_method_59_code 60 = .ok (.iload 6, 2) := by decide +kernel
theorem d18_62 : decode jdk_65_method_59_code 62 = .ok (.ireturn, 1) := by decide +kernel
theorem d18_63 : decode jdk_65_method_59_code 63 = .ok (.goto (-55), 3) := by decide +kernel
theorem d18_66 : decode jdk_65_method_59_code 66 = .ok (.iload 4, 2) := by decide +kernel
theorem d18_68 : decode jdk_65_method_59_code 68 = .ok (.iconst 1, 1) := by decide +kernel
theorem d18_69 : decode jdk_65_method_59_code 69 = .ok (.iadd, 1) := by decide +kernel
theorem d18_70 : decode jdk_65_method_59_code 70 = .ok (.ineg, 1) := by decide +kernel
theorem d18_71 : decode jdk_65_method_59_code 71 = .ok (.ireturn, 1) := by decide +kernel
theorem ef_18 (m : MethodId) (oa : Addr) (u : Int32) (w : Int32) (key : Int32) : entryFrame m #[(.ref oa), (.int u), (.int w), (.int key)] 8 = mkF m 0 #[.val (.ref oa), .val (.int u), .val (.int w), .val (.int key), .unset, .unset, .unset, .unset] [] := by first | (simp [entryFrame, mkF, argsToLocals, Value.category]; done) | rfl
theorem pn_1 : plainName "java/util/Arrays" = true := by first | (simp [plainName, overriddenIn]; done) | decide +kernel
abbrev rm_c_bs0 : Room := { frames := 0, cells := 0, slots := 0, locals := 0 }
set_option maxRecDepth 65536 in
set_option maxHeartbeats 40000000 in
theorem c_bs0 (l : Launch) (Z : State) (a0 : Array Value) (hw : ∀ d ∈ tables_1, d.before a0 Z = true) (oa : Addr) (u : Int32) (w : Int32) (key : Int32) (k : Nat) (go : Nat → Int32) (h0 : Heap) (n0 : Nat) (low : n0 ≤ h0.size) (A_o : ARI Z h0 oa .int k go) (hk : k ≤ 100) (hb : ∀ i, i < k → (go i).toInt < key.toInt) (h1 : u.toInt = 0) (h2 : w.toInt = k) :
    Meth l Z (⟨"java/util/Arrays", "binarySearch0", "([IIII)I"⟩ : MethodName) jdk_65_method_59_code 8 (some .int) rm_c_bs0 #[(.ref oa), (.int u), (.int w), (.int key)] h0 n0 (RetI (fun z => z.toInt = - ((k : Int) + 1)) h0) := by
  refine Meth.of (plainFor_of_name pn_1) low ?_
  intro p e s m args below meth c T P
  refine Ends.cast (ef_18 m oa u w key) ?_
  refine iloadN P d18_0 rfl (n := 1) rfl ?_
  refine istore P d18_1 (l' := #[.val (.ref oa), .val (.int u), .val (.int w), .val (.int key), .val (.int u), .unset, .unset, .unset]) rfl (n := 3) rfl ?_
  refine iloadN P d18_3 rfl (n := 4) rfl ?_
  refine iconst P d18_4 (x := (1 : Int32)) rfl (n := 5) rfl ?_
  refine isub P d18_5 (n := 6) rfl ?_
  refine nameI (x := (w - (1 : Int32))) (F := fun z1 => Jvm.Own.Ends p e below s rm_c_bs0 n0 (RetI (fun z => z.toInt = - ((k : Int) + 1)) h0) T (mkF m 6 #[.val (.ref oa), .val (.int u), .val (.int w), .val (.int key), .val (.int u), .unset, .unset, .unset] [(.int z1)])) ?_
  intro z1 hz1
  have tz1 : z1.toInt = w.toInt - (1 : Int) := n_isub hz1 rfl rfl (by omega)
  refine istore P d18_6 (l' := #[.val (.ref oa), .val (.int u), .val (.int w), .val (.int key), .val (.int u), .val (.int z1), .unset, .unset]) rfl (n := 8) rfl ?_
  have LP : ∀ (r : Nat) (T : State) (x4 : Int32) (s6 s7 : Slot), (s6 = .unset ∨ ∃ w : Int32, s6 = .val (.int w)) → (s7 = .unset ∨ ∃ w : Int32, s7 = .val (.int w)) → Jvm.Own.Pos p l e rm_c_bs0 s m args below meth c Z "java/util/Arrays" "binarySearch0" jdk_65_method_59_code 8 (some .int) n0 T h0 0 0 → (0 ≤ x4.toInt ∧ x4.toInt ≤ k) → (k : Int) - x4.toInt ≤ r → Jvm.Own.Ends p e below s rm_c_bs0 n0 (RetI (fun z => z.toInt = - ((k : Int) + 1)) h0) T (mkF m 8 #[.val (.ref oa), .val (.int u), .val (.int w), .val (.int key), .val (.int x4), .val (.int z1), s6, s7] []) := by
    intro r
    induction r with
    | zero =>
      intro T x4 s6 s7 sl_s6 sl_s7 P tx hr
      refine iload P d18_8 rfl (n := 10) rfl ?_
      refine iload P d18_10 rfl (n := 12) rfl ?_
      refine icmp_gt P d18_12 (n' := 66) (n := 15) (by decide) rfl (fun hc12 => ?_) (fun hc12 => ?_)
      · -- pc 12 taken
        refine iload P d18_66 rfl (n := 68) rfl ?_
        refine iconst P d18_68 (x := (1 : Int32)) rfl (n := 69) rfl ?_
        refine iadd P d18_69 (n := 70) rfl ?_
        refine nameI (x := (x4 + (1 : Int32))) (F := fun z2 => Jvm.Own.Ends p e below s rm_c_bs0 n0 (RetI (fun z => z.toInt = - ((k : Int) + 1)) h0) T (mkF m 70 #[.val (.ref oa), .val (.int u), .val (.int w), .val (.int key), .val (.int x4), .val (.int z1), s6, s7] [(.int z2)])) ?_
        intro z2 hz2
        have tz2 : z2.toInt = x4.toInt + (1 : Int) := n_iadd hz2 rfl rfl (by omega)
        refine ineg P d18_70 (n := 71) rfl ?_
        refine retI P d18_71 (by decide) (by decide) ?_
        exact RetI.mk (by have q := own_neg z2 (by omega); omega)
      · -- pc 12 not taken
        exfalso; omega
    | succ r ih =>
      intro T x4 s6 s7 sl_s6 sl_s7 P tx hr
      refine iload P d18_8 rfl (n := 10) rfl ?_
      refine iload P d18_10 rfl (n := 12) rfl ?_
      refine icmp_gt P d18_12 (n' := 66) (n := 15) (by decide) rfl (fun hc12 => ?_) (fun hc12 => ?_)
      · -- pc 12 taken
        refine iload P d18_66 rfl (n := 68) rfl ?_
        refine iconst P d18_68 (x := (1 : Int32)) rfl (n := 69) rfl ?_
        refine iadd P d18_69 (n := 70) rfl ?_
        refine nameI (x := (x4 + (1 : Int32))) (F := fun z3 => Jvm.Own.Ends p e below s rm_c_bs0 n0 (RetI (fun z => z.toInt = - ((k : Int) + 1)) h0) T (mkF m 70 #[.val (.ref oa), .val (.int u), .val (.int w), .val (.int key), .val (.int x4), .val (.int z1), s6, s7] [(.int z3)])) ?_
        intro z3 hz3
        have tz3 : z3.toInt = x4.toInt + (1 : Int) := n_iadd hz3 rfl rfl (by omega)
        refine ineg P d18_70 (n := 71) rfl ?_
        refine retI P d18_71 (by decide) (by decide) ?_
        exact RetI.mk (by have q := own_neg z3 (by omega); omega)
      · -- pc 12 not taken
        refine iload P d18_15 rfl (n := 17) rfl ?_
        refine iload P d18_17 rfl (n := 19) rfl ?_
        refine iadd P d18_19 (n := 20) rfl ?_
        refine nameI (x := (x4 + z1)) (F := fun z4 => Jvm.Own.Ends p e below s rm_c_bs0 n0 (RetI (fun z => z.toInt = - ((k : Int) + 1)) h0) T (mkF m 20 #[.val (.ref oa), .val (.int u), .val (.int w), .val (.int key), .val (.int x4), .val (.int z1), s6, s7] [(.int z4)])) ?_
        intro z4 hz4
        have tz4 : z4.toInt = x4.toInt + z1.toInt := n_iadd hz4 rfl rfl (by omega)
        refine iconst P d18_20 (x := (1 : Int32)) rfl (n := 21) rfl ?_
        refine iushr P d18_21 (n := 22) rfl ?_
        refine nameI (x := ((z4.toUInt32 >>> ((1 : Int32) &&& 31).toUInt32).toInt32)) (F := fun z5 => Jvm.Own.Ends p e below s rm_c_bs0 n0 (RetI (fun z => z.toInt = - ((k : Int) + 1)) h0) T (mkF m 22 #[.val (.ref oa), .val (.int u), .val (.int w), .val (.int key), .val (.int x4), .val (.int z1), s6, s7] [(.int z5)])) ?_
        intro z5 hz5
        have tz5 : z5.toInt = (z4.toInt % 4294967296) / 2 := n_iushr 1 hz5 rfl (by decide)
        refine istore P d18_22 (l' := #[.val (.ref oa), .val (.int u), .val (.int w), .val (.int key), .val (.int x4), .val (.int z1), .val (.int z5), s7]) (by rcases sl_s6 with rfl | ⟨w, rfl⟩ <;> rfl) (n := 24) rfl ?_
        refine aloadN P d18_24 rfl rfl (n := 25) rfl ?_
        refine iload P d18_25 rfl (n := 27) rfl ?_
        have hgm := hb z5.toInt.toNat (by omega)
        refine ialoadI P d18_27 A_o (u := z5.toInt.toNat) ⟨by omega, by omega⟩ (n := 28) rfl ?_
        refine istore P d18_28 (l' := #[.val (.ref oa), .val (.int u), .val (.int w), .val (.int key), .val (.int x4), .val (.int z1), .val (.int z5), .val (.int (go z5.toInt.toNat))]) (by rcases sl_s7 with rfl | ⟨w, rfl⟩ <;> rfl) (n := 30) rfl ?_
        refine iload P d18_30 rfl (n := 32) rfl ?_
        refine iloadN P d18_32 rfl (n := 33) rfl ?_
        refine icmp_ge P d18_33 (n' := 45) (n := 36) (by decide) rfl (fun hc33 => ?_) (fun hc33 => ?_)
        · -- pc 33 taken
          exfalso; omega
        · -- pc 33 not taken
          refine iload P d18_36 rfl (n := 38) rfl ?_
          refine iconst P d18_38 (x := (1 : Int32)) rfl (n := 39) rfl ?_
          refine iadd P d18_39 (n := 40) rfl ?_
          refine nameI (x := (z5 + (1 : Int32))) (F := fun z6 => Jvm.Own.Ends p e below s rm_c_bs0 n0 (RetI (fun z => z.toInt = - ((k : Int) + 1)) h0) T (mkF m 40 #[.val (.ref oa), .val (.int u), .val (.int w), .val (.int key), .val (.int x4), .val (.int z1), .val (.int z5), .val (.int (go z5.toInt.toNat))] [(.int z6)])) ?_
          intro z6 hz6
          have tz6 : z6.toInt = z5.toInt + (1 : Int) := n_iadd hz6 rfl rfl (by omega)
          refine istore P d18_40 (l' := #[.val (.ref oa), .val (.int u), .val (.int w), .val (.int key), .val (.int z6), .val (.int z1), .val (.int z5), .val (.int (go z5.toInt.toNat))]) rfl (n := 42) rfl ?_
          refine goto P d18_42 (n := 63) (by decide) ?_
          refine goto P d18_63 (n := 8) (by decide) ?_
          exact ih T z6 _ _ (Or.inr ⟨_, rfl⟩) (Or.inr ⟨_, rfl⟩) P (by omega) (by omega)
  exact LP k T u .unset .unset (Or.inl rfl) (Or.inl rfl) P (by omega) (by omega)
theorem d17_0 : decode jdk_65_method_57_code 0 = .ok (.aload_n 0, 1) := by decide +kernel
theorem d17_1 : decode jdk_65_method_57_code 1 = .ok (.iconst 0, 1) := by decide +kernel
theorem d17_2 : decode jdk_65_method_57_code 2 = .ok (.aload_n 0, 1) := by decide +kernel
theorem d17_3 : decode jdk_65_method_57_code 3 = .ok (.arraylength, 1) := by decide +kernel
theorem d17_4 : decode jdk_65_method_57_code 4 = .ok (.iload_n 1, 1) := by decide +kernel
theorem d17_5 : decode jdk_65_method_57_code 5 = .ok (.invokestatic 209, 3) := by decide +kernel
theorem d17_8 : decode jdk_65_method_57_code 8 = .ok (.ireturn, 1) := by decide +kernel
theorem ef_17 (m : MethodId) (oa : Addr) (key : Int32) : entryFrame m #[(.ref oa), (.int key)] 2 = mkF m 0 #[.val (.ref oa), .val (.int key)] [] := by first | (simp [entryFrame, mkF, argsToLocals, Value.category]; done) | rfl
theorem pd_2 : parseMethodDescriptor "([IIII)I" = some ⟨[(.array .int), .int, .int, .int], some .int⟩ := by decide +kernel
abbrev rm_c_bs : Room := { frames := 1, cells := 0, slots := 0, locals := 19 }
set_option maxRecDepth 65536 in
set_option maxHeartbeats 40000000 in
theorem c_bs (l : Launch) (Z : State) (a0 : Array Value) (hw : ∀ d ∈ tables_1, d.before a0 Z = true) (oa : Addr) (key : Int32) (k : Nat) (go : Nat → Int32) (h0 : Heap) (n0 : Nat) (low : n0 ≤ h0.size) (A_o : ARI Z h0 oa .int k go) (hk : k ≤ 100) (hb : ∀ i, i < k → (go i).toInt < key.toInt) :
    Meth l Z (⟨"java/util/Arrays", "binarySearch", "([II)I"⟩ : MethodName) jdk_65_method_57_code 2 (some .int) rm_c_bs #[(.ref oa), (.int key)] h0 n0 (RetI (fun z => z.toInt = - ((k : Int) + 1)) h0) := by
  refine Meth.of (plainFor_of_name pn_1) low ?_
  intro p e s m args below meth c T P
  refine Ends.cast (ef_17 m oa key) ?_
  have eL0 : (0 : Int32).toInt = 0 := rfl
  have eL15 : (15 : Int32).toInt = 15 := rfl
  have hkk : (Int32.ofNat k).toInt = k := Int32.toInt_ofNat_small (by omega)
  refine aloadN P d17_0 rfl rfl (n := 1) rfl ?_
  refine iconst P d17_1 (x := (0 : Int32)) rfl (n := 2) rfl ?_
  refine aloadN P d17_2 rfl rfl (n := 3) rfl ?_
  refine alen P d17_3 A_o (x := (Int32.ofNat k)) hkk (n := 4) rfl ?_
  refine iloadN P d17_4 rfl (n := 5) rfl ?_
  refine callS P d17_5 (argsL := [(.ref oa), (.int (0 : Int32)), (.int (Int32.ofNat k)), (.int key)]) (rest := []) (c_bs0 l Z a0 hw oa (0 : Int32) (Int32.ofNat k) key k go h0 n0 P.low A_o hk hb (by omega) (by omega)) (hw _ (List.mem_of_getElem? (i := 90) rfl)) (hw _ (List.mem_of_getElem? (i := 91) rfl)) (hw _ (List.mem_of_getElem? (i := 88) rfl)) (hw _ (List.mem_of_getElem? (i := 92) rfl)) (by decide) pd_2 rfl rfl rfl ⟨by decide, Nat.le_of_ble_eq_true rfl, by decide, by decide⟩ (n := 8) rfl (RetI.on ?_)
  intro T r1 P hr1
  refine retI P d17_8 (by decide) (by decide) ?_
  exact RetI.mk hr1
theorem d16_0 : decode prog_1_method_39_code 0 = .ok (.aload_n 0, 1) := by decide +kernel
theorem d16_1 : decode prog_1_method_39_code 1 = .ok (.getfield 11, 3) := by decide +kernel
theorem d16_4 : decode prog_1_method_39_code 4 = .ok (.iload_n 1, 1) := by decide +kernel
theorem d16_5 : decode prog_1_method_39_code 5 = .ok (.bipush 8, 2) := by decide +kernel
theorem d16_7 : decode prog_1_method_39_code 7 = .ok (.ishl, 1) := by decide +kernel
theorem d16_8 : decode prog_1_method_39_code 8 = .ok (.invokestatic 205, 3) := by decide +kernel
theorem d16_11 : decode prog_1_method_39_code 11 = .ok (.ineg, 1) := by decide +kernel
theorem d16_12 : decode prog_1_method_39_code 12 = .ok (.iconst 1, 1) := by decide +kernel
theorem d16_13 : decode prog_1_method_39_code 13 = .ok (.isub, 1) := by decide +kernel
theorem d16_14 : decode prog_1_method_39_code 14 = .ok (.ireturn, 1) := by decide +kernel
theorem ef_16 (m : MethodId) (a : Addr) (u : Int32) : entryFrame m #[(.ref a), (.int u)] 2 = mkF m 0 #[.val (.ref a), .val (.int u)] [] := by first | (simp [entryFrame, mkF, argsToLocals, Value.category]; done) | rfl
theorem pd_3 : parseMethodDescriptor "([II)I" = some ⟨[(.array .int), .int], some .int⟩ := by decide +kernel
abbrev rm_c_pos : Room := { frames := 2, cells := 0, slots := 0, locals := 32 }
set_option maxRecDepth 65536 in
set_option maxHeartbeats 40000000 in
theorem c_pos (l : Launch) (Z : State) (a0 : Array Value) (hw : ∀ d ∈ tables_1, d.before a0 Z = true) (a : Addr) (u : Int32) (wa oa : Addr) (pr vb ab al : Int32) (sm : Int64) (wl : Nat) (gw : Nat → Int64) (k : Nat) (go : Nat → Int32) (h0 : Heap) (n0 : Nat) (low : n0 ≤ h0.size) (D : own_D Z n0 h0 a wa oa pr vb ab al sm wl gw k go) (hu : 0 ≤ u.toInt ∧ u.toInt ≤ 15) (hk : k ≤ 4) (hb : ∀ i, i < k → (go i).toInt < 256 * u.toInt) :
    Meth l Z (⟨"com/example/thrifty_tally/thriftytally/DenseRegisters", "overflowPosition", "(I)I"⟩ : MethodName) prog_1_method_39_code 2 (some .int) rm_c_pos #[(.ref a), (.int u)] h0 n0 (RetI (fun z => z.toInt = k) h0) := by
  refine Meth.of (plainFor_of_name pn_0) low ?_
  intro p e s m args below meth c T P
  refine Ends.cast (ef_16 m a u) ?_
  have eL0 : (0 : Int32).toInt = 0 := rfl
  have eL15 : (15 : Int32).toInt = 15 := rfl
  obtain ⟨E_a, F_p, F_vb, F_w, F_b, F_ab, F_al, F_o, F_s, A_w, A_o, lo_a, lo_w, n1, n2, n3⟩ := D
  refine aloadN P d16_0 rfl rfl (n := 1) rfl ?_
  refine getF P d16_1 (hw _ (List.mem_of_getElem? (i := 29) rfl)) F_o (n := 4) rfl ?_
  intro T P
  refine iloadN P d16_4 rfl (n := 5) rfl ?_
  refine bipush P d16_5 (x := (8 : Int32)) rfl (n := 7) rfl ?_
  refine ishl P d16_7 (n := 8) rfl ?_
  refine nameI (x := (u <<< ((8 : Int32) &&& 31))) (F := fun kz => Jvm.Own.Ends p e below s rm_c_pos n0 (RetI (fun z => z.toInt = k) h0) T (mkF m 8 #[.val (.ref a), .val (.int u)] [(.int kz), (.ref oa)])) ?_
  intro kz hkz
  have tkz := own_key u kz hkz hu
  refine callS P d16_8 (argsL := [(.ref oa), (.int kz)]) (rest := []) (c_bs l Z a0 hw oa kz k go h0 n0 P.low A_o (by omega) (fun i hi => by have q := hb i hi; omega)) (hw _ (List.mem_of_getElem? (i := 86) rfl)) (hw _ (List.mem_of_getElem? (i := 87) rfl)) (hw _ (List.mem_of_getElem? (i := 88) rfl)) (hw _ (List.mem_of_getElem? (i := 89) rfl)) (by decide) pd_3 rfl rfl rfl ⟨by decide, Nat.le_of_ble_eq_true rfl, by decide, by decide⟩ (n := 11) rfl (RetI.on ?_)
  intro T r1 P hr1
  refine ineg P d16_11 (n := 12) rfl ?_
  refine nameI (x := (-r1)) (F := fun ng => Jvm.Own.Ends p e below s rm_c_pos n0 (RetI (fun z => z.toInt = k) h0) T (mkF m 12 #[.val (.ref a), .val (.int u)] [(.int ng)])) ?_
  intro ng hng
  have tng := own_neg r1 (by omega)
  rw [← hng] at tng
  refine iconst P d16_12 (x := (1 : Int32)) rfl (n := 13) rfl ?_
  refine isub P d16_13 (n := 14) rfl ?_
  refine nameI (x := (ng - (1 : Int32))) (F := fun z2 => Jvm.Own.Ends p e below s rm_c_pos n0 (RetI (fun z => z.toInt = k) h0) T (mkF m 14 #[.val (.ref a), .val (.int u)] [(.int z2)])) ?_
  intro z2 hz2
  have tz2 : z2.toInt = ng.toInt - (1 : Int) := n_isub hz2 rfl rfl (by omega)
  refine retI P d16_14 (by decide) (by decide) ?_
  exact RetI.mk (by omega)
theorem d19_0 : decode prog_1_method_40_code 0 = .ok (.iload_n 1, 1) := by decide +kernel
theorem d19_1 : decode prog_1_method_40_code 1 = .ok (.aload_n 0, 1) := by decide +kernel
theorem d19_2 : decode prog_1_method_40_code 2 = .ok (.getfield 11, 3) := by decide +kernel
theorem d19_5 : decode prog_1_method_40_code 5 = .ok (.arraylength, 1) := by decide +kernel
theorem d19_6 : decode prog_1_method_40_code 6 = .ok (.if_icmp .ge 20, 3) := by decide +kernel
theorem d19_9 : decode prog_1_method_40_code 9 = .ok (.aload_n 0, 1) := by decide +kernel
theorem d19_10 : decode prog_1_method_40_code 10 = .ok (.getfield 11, 3) := by decide +kernel
theorem d19_13 : decode prog_1_method_40_code 13 = .ok (.iload_n 1, 1) := by decide +kernel
theorem d19_14 : decode prog_1_method_40_code 14 = .ok (.iaload, 1) := by decide +kernel
theorem d19_15 : decode prog_1_method_40_code 15 = .ok (.bipush 8, 2) := by decide +kernel
theorem d19_17 : decode prog_1_method_40_code 17 = .ok (.iushr, 1) := by decide +kernel
theorem d19_18 : decode prog_1_method_40_code 18 = .ok (.iload_n 2, 1) := by decide +kernel
theorem d19_19 : decode prog_1_method_40_code 19 = .ok (.if_icmp .ne 7, 3) := by decide +kernel
theorem d19_22 : decode prog_1_method_40_code 22 = .ok (.iconst 1, 1) := by decide +kernel
theorem d19_23 : decode prog_1_method_40_code 23 = .ok (.goto 4, 3) := by decide +kernel
theorem d19_26 : decode prog_1_method_40_code 26 = .ok (.iconst 0, 1) := by decide +kernel
theorem d19_27 : decode prog_1_method_40_code 27 = .ok (.ireturn, 1) := by decide +kernel
theorem ef_19 (m : MethodId) (a : Addr) (u : Int32) (w : Int32) : entryFrame m #[(.ref a), (.int u), (.int w)] 3 = mkF m 0 #[.val (.ref a), .val (.int u), .val (.int w)] [] := by first | (simp [entryFrame, mkF, argsToLocals, Value.category]; done) | rfl
abbrev rm_c_iso : Room := { frames := 0, cells := 0, slots := 0, locals := 0 }
set_option maxRecDepth 65536 in
set_option maxHeartbeats 40000000 in
theorem c_iso (l : Launch) (Z : State) (a0 : Array Value) (hw : ∀ d ∈ tables_1, d.before a0 Z = true) (a : Addr) (u : Int32) (w : Int32) (wa oa : Addr) (pr vb ab al : Int32) (sm : Int64) (wl : Nat) (gw : Nat → Int64) (k : Nat) (go : Nat → Int32) (h0 : Heap) (n0 : Nat) (low : n0 ≤ h0.size) (D : own_D Z n0 h0 a wa oa pr vb ab al sm wl gw k go) (hu : u.toInt = k) (hk : k ≤ 4) :
    Meth l Z (⟨"com/example/thrifty_tally/thriftytally/DenseRegisters", "isOverflowOf", "(II)Z"⟩ : MethodName) prog_1_method_40_code 3 (some .boolean) rm_c_iso #[(.ref a), (.int u), (.int w)] h0 n0 (Ret (.int (0 : Int32)) h0) := by
  refine Meth.of (plainFor_of_name pn_0) low ?_
  intro p e s m args below meth c T P
  refine Ends.cast (ef_19 m a u w) ?_
  have eL0 : (0 : Int32).toInt = 0 := rfl
  have eL15 : (15 : Int32).toInt = 15 := rfl
  obtain ⟨E_a, F_p, F_vb, F_w, F_b, F_ab, F_al, F_o, F_s, A_w, A_o, lo_a, lo_w, n1, n2, n3⟩ := D
  have hkk : (Int32.ofNat k).toInt = k := Int32.toInt_ofNat_small (by omega)
  refine iloadN P d19_0 rfl (n := 1) rfl ?_
  refine aloadN P d19_1 rfl rfl (n := 2) rfl ?_
  refine getF P d19_2 (hw _ (List.mem_of_getElem? (i := 29) rfl)) F_o (n := 5) rfl ?_
  intro T P
  refine alen P d19_5 A_o (x := (Int32.ofNat k)) hkk (n := 6) rfl ?_
  refine icmp_ge P d19_6 (n' := 26) (n := 9) (by decide) rfl (fun hc6 => ?_) (fun hc6 => ?_)
  · -- pc 6 taken
    refine iconst P d19_26 (x := (0 : Int32)) rfl (n := 27) rfl ?_
    refine retZ P d19_27 (by decide) (by decide) (by decide) ?_
    exact Ret.ofI rfl
  · -- pc 6 not taken
    exfalso; omega
theorem d20_0 : decode prog_1_method_6_code 0 = .ok (.iload_n 0, 1) := by decide +kernel
theorem d20_1 : decode prog_1_method_6_code 1 = .ok (.bipush 8, 2) := by decide +kernel
theorem d20_3 : decode prog_1_method_6_code 3 = .ok (.ishl, 1) := by decide +kernel
theorem d20_4 : decode prog_1_method_6_code 4 = .ok (.iload_n 1, 1) := by decide +kernel
theorem d20_5 : decode prog_1_method_6_code 5 = .ok (.ior, 1) := by decide +kernel
theorem d20_6 : decode prog_1_method_6_code 6 = .ok (.ireturn, 1) := by decide +kernel
theorem ef_20 (m : MethodId) (u : Int32) (w : Int32) : entryFrame m #[(.int u), (.int w)] 2 = mkF m 0 #[.val (.int u), .val (.int w)] [] := by first | (simp [entryFrame, mkF, argsToLocals, Value.category]; done) | rfl
abbrev rm_c_ovf : Room := { frames := 0, cells := 0, slots := 0, locals := 0 }
set_option maxRecDepth 65536 in
set_option maxHeartbeats 40000000 in
theorem c_ovf (l : Launch) (Z : State) (a0 : Array Value) (hw : ∀ d ∈ tables_1, d.before a0 Z = true) (u : Int32) (w : Int32)  (h0 : Heap) (n0 : Nat) (low : n0 ≤ h0.size)  :
    Meth l Z (⟨"com/example/thrifty_tally/thriftytally/DenseRegisters", "overflow", "(II)I"⟩ : MethodName) prog_1_method_6_code 2 (some .int) rm_c_ovf #[(.int u), (.int w)] h0 n0 (Ret (.int ((u <<< ((8 : Int32) &&& 31)) ||| w)) h0) := by
  refine Meth.of (plainFor_of_name pn_0) low ?_
  intro p e s m args below meth c T P
  refine Ends.cast (ef_20 m u w) ?_
  refine iloadN P d20_0 rfl (n := 1) rfl ?_
  refine bipush P d20_1 (x := (8 : Int32)) rfl (n := 3) rfl ?_
  refine ishl P d20_3 (n := 4) rfl ?_
  refine iloadN P d20_4 rfl (n := 5) rfl ?_
  refine ior P d20_5 (n := 6) rfl ?_
  refine retI P d20_6 (by decide) (by decide) ?_
  exact Ret.ofI rfl
theorem d15_0 : decode prog_1_method_42_code 0 = .ok (.aload_n 0, 1) := by decide +kernel
theorem d15_1 : decode prog_1_method_42_code 1 = .ok (.iload_n 1, 1) := by decide +kernel
theorem d15_2 : decode prog_1_method_42_code 2 = .ok (.invokevirtual 209, 3) := by decide +kernel
theorem d15_5 : decode prog_1_method_42_code 5 = .ok (.istore_n 3, 1) := by decide +kernel
theorem d15_6 : decode prog_1_method_42_code 6 = .ok (.aload_n 0, 1) := by decide +kernel
theorem d15_7 : decode prog_1_method_42_code 7 = .ok (.iload_n 3, 1) := by decide +kernel
theorem d15_8 : decode prog_1_method_42_code 8 = .ok (.iload_n 1, 1) := by decide +kernel
theorem d15_9 : decode prog_1_method_42_code 9 = .ok (.invokevirtual 212, 3) := by decide +kernel
theorem d15_12 : decode prog_1_method_42_code 12 = .ok (.ifCond .eq 17, 3) := by decide +kernel
theorem d15_15 : decode prog_1_method_42_code 15 = .ok (.aload_n 0, 1) := by decide +kernel
theorem d15_16 : decode prog_1_method_42_code 16 = .ok (.getfield 11, 3) := by decide +kernel
theorem d15_19 : decode prog_1_method_42_code 19 = .ok (.iload_n 3, 1) := by decide +kernel
theorem d15_20 : decode prog_1_method_42_code 20 = .ok (.iload_n 1, 1) := by decide +kernel
theorem d15_21 : decode prog_1_method_42_code 21 = .ok (.iload_n 2, 1) := by decide +kernel
theorem d15_22 : decode prog_1_method_42_code 22 = .ok (.invokestatic 178, 3) := by decide +kernel
theorem d15_25 : decode prog_1_method_42_code 25 = .ok (.iastore, 1) := by decide +kernel
theorem d15_26 : decode prog_1_method_42_code 26 = .ok (.goto 61, 3) := by decide +kernel
theorem d15_29 : decode prog_1_method_42_code 29 = .ok (.aload_n 0, 1) := by decide +kernel
theorem d15_30 : decode prog_1_method_42_code 30 = .ok (.getfield 11, 3) := by decide +kernel
theorem d15_33 : decode prog_1_method_42_code 33 = .ok (.arraylength, 1) := by decide +kernel
theorem d15_34 : decode prog_1_method_42_code 34 = .ok (.iconst 1, 1) := by decide +kernel
theorem d15_35 : decode prog_1_method_42_code 35 = .ok (.iadd, 1) := by decide +kernel
theorem d15_36 : decode prog_1_method_42_code 36 = .ok (.newarray .int, 2) := by decide +kernel
theorem d15_38 : decode prog_1_method_42_code 38 = .ok (.astore 4, 2) := by decide +kernel
theorem d15_40 : decode prog_1_method_42_code 40 = .ok (.aload_n 0, 1) := by decide +kernel
theorem d15_41 : decode prog_1_method_42_code 41 = .ok (.getfield 11, 3) := by decide +kernel
theorem d15_44 : decode prog_1_method_42_code 44 = .ok (.iconst 0, 1) := by decide +kernel
theorem d15_45 : decode prog_1_method_42_code 45 = .ok (.aload 4, 2) := by decide +kernel
theorem d15_47 : decode prog_1_method_42_code 47 = .ok (.iconst 0, 1) := by decide +kernel
theorem d15_48 : decode prog_1_method_42_code 48 = .ok (.iload_n 3, 1) := by decide +kernel
theorem d15_49 : decode prog_1_method_42_code 49 = .ok (.invokestatic 215, 3) := by decide +kernel
theorem d15_52 : decode prog_1_method_42_code 52 = .ok (.aload 4, 2) := by decide +kernel
theorem d15_54 : decode prog_1_method_42_code 54 = .ok (.iload_n 3, 1) := by decide +kernel
theorem d15_55 : decode prog_1_method_42_code 55 = .ok (.iload_n 1, 1) := by decide +kernel
theorem d15_56 : decode prog_1_method_42_code 56 = .ok (.iload_n 2, 1) := by decide +kernel
theorem d15_57 : decode prog_1_method_42_code 57 = .ok (.invokestatic 178, 3) := by decide +kernel
theorem d15_60 : decode prog_1_method_42_code 60 = .ok (.iastore, 1) := by decide +kernel
theorem d15_61 : decode prog_1_method_42_code 61 = .ok (.aload_n 0, 1) := by decide +kernel
theorem d15_62 : decode prog_1_method_42_code 62 = .ok (.getfield 11, 3) := by decide +kernel
theorem d15_65 : decode prog_1_method_42_code 65 = .ok (.iload_n 3, 1) := by decide +kernel
theorem d15_66 : decode prog_1_method_42_code 66 = .ok (.aload 4, 2) := by decide +kernel
theorem d15_68 : decode prog_1_method_42_code 68 = .ok (.iload_n 3, 1) := by decide +kernel
theorem d15_69 : decode prog_1_method_42_code 69 = .ok (.iconst 1, 1) := by decide +kernel
theorem d15_70 : decode prog_1_method_42_code 70 = .ok (.iadd, 1) := by decide +kernel
theorem d15_71 : decode prog_1_method_42_code 71 = .ok (.aload_n 0, 1) := by decide +kernel
theorem d15_72 : decode prog_1_method_42_code 72 = .ok (.getfield 11, 3) := by decide +kernel
theorem d15_75 : decode prog_1_method_42_code 75 = .ok (.arraylength, 1) := by decide +kernel
theorem d15_76 : decode prog_1_method_42_code 76 = .ok (.iload_n 3, 1) := by decide +kernel
theorem d15_77 : decode prog_1_method_42_code 77 = .ok (.isub, 1) := by decide +kernel
theorem d15_78 : decode prog_1_method_42_code 78 = .ok (.invokestatic 215, 3) := by decide +kernel
theorem d15_81 : decode prog_1_method_42_code 81 = .ok (.aload_n 0, 1) := by decide +kernel
theorem d15_82 : decode prog_1_method_42_code 82 = .ok (.aload 4, 2) := by decide +kernel
theorem d15_84 : decode prog_1_method_42_code 84 = .ok (.putfield 11, 3) := by decide +kernel
theorem d15_87 : decode prog_1_method_42_code 87 = .ok (.return_, 1) := by decide +kernel
theorem ef_15 (m : MethodId) (a : Addr) (u : Int32) (w : Int32) : entryFrame m #[(.ref a), (.int u), (.int w)] 5 = mkF m 0 #[.val (.ref a), .val (.int u), .val (.int w), .unset, .unset] [] := by first | (simp [entryFrame, mkF, argsToLocals, Value.category]; done) | rfl
theorem pd_4 : parseMethodDescriptor "(II)Z" = some ⟨[.int, .int], some .boolean⟩ := by decide +kernel
theorem pd_5 : parseMethodDescriptor "(II)I" = some ⟨[.int, .int], some .int⟩ := by decide +kernel
theorem pd_6 : parseMethodDescriptor "(Ljava/lang/Object;ILjava/lang/Object;II)V" = some ⟨[(.object "java/lang/Object"), .int, (.object "java/lang/Object"), .int, .int], none⟩ := by decide +kernel
abbrev rm_c_set : Room := { frames := 3, cells := 1, slots := 5, locals := 45 }
set_option maxRecDepth 65536 in
set_option maxHeartbeats 40000000 in
theorem c_set (l : Launch) (Z : State) (a0 : Array Value) (hw : ∀ d ∈ tables_1, d.before a0 Z = true) (a : Addr) (u : Int32) (w : Int32) (wa oa : Addr) (pr vb ab al : Int32) (sm : Int64) (wl : Nat) (gw : Nat → Int64) (k : Nat) (go : Nat → Int32) (h0 : Heap) (n0 : Nat) (low : n0 ≤ h0.size) (D : own_D Z n0 h0 a wa oa pr vb ab al sm wl gw k go) (hu : 0 ≤ u.toInt ∧ u.toInt ≤ 15) (hw9 : 1 ≤ w.toInt ∧ w.toInt ≤ 100) (hk : k ≤ 4) (hb : ∀ i, i < k → (go i).toInt < 256 * u.toInt) (hp : ∀ i, i < k → 0 ≤ (go i).toInt) :
    Meth l Z (⟨"com/example/thrifty_tally/thriftytally/DenseRegisters", "setOverflow", "(II)V"⟩ : MethodName) prog_1_method_42_code 5 none rm_c_set #[(.ref a), (.int u), (.int w)] h0 n0 (fun v h => v = none ∧ ∃ (oa' : Addr) (go' : Nat → Int32), own_D Z n0 h a wa oa' pr vb ab al sm wl gw (k + 1) go' ∧ (∀ i, i < k + 1 → 0 ≤ (go' i).toInt ∧ (go' i).toInt < 256 * (u.toInt + 1))) := by
  refine Meth.of (plainFor_of_name pn_0) low ?_
  intro p e s m args below meth c T P
  refine Ends.cast (ef_15 m a u w) ?_
  have eL0 : (0 : Int32).toInt = 0 := rfl
  have eL15 : (15 : Int32).toInt = 15 := rfl
  obtain ⟨E_a, F_p, F_vb, F_w, F_b, F_ab, F_al, F_o, F_s, A_w, A_o, lo_a, lo_w, n1, n2, n3⟩ := D
  have hkk : (Int32.ofNat k).toInt = k := Int32.toInt_ofNat_small (by omega)
  refine aloadN P d15_0 rfl rfl (n := 1) rfl ?_
  refine iloadN P d15_1 rfl (n := 2) rfl ?_
  have D9 : own_D Z n0 h0 a (wa) (oa) (pr) (vb) (ab) (al) (sm) (wl) (gw) (k) (go) := ⟨E_a, F_p, F_vb, F_w, F_b, F_ab, F_al, F_o, F_s, A_w, A_o, lo_a, lo_w, n1, n2, n3⟩
  refine callP P d15_2 (a := a) (argsL := [(.int u)]) (rest := []) (c_pos l Z a0 hw a u (wa) (oa) (pr) (vb) (ab) (al) (sm) (wl) (gw) (k) (go) h0 n0 P.low D9 hu hk hb) E_a (hw _ (List.mem_of_getElem? (i := 82) rfl)) (hw _ (List.mem_of_getElem? (i := 83) rfl)) (hw _ (List.mem_of_getElem? (i := 6) rfl)) (hw _ (List.mem_of_getElem? (i := 84) rfl)) (hw _ (List.mem_of_getElem? (i := 7) rfl)) (hw _ (List.mem_of_getElem? (i := 85) rfl)) (by decide) pd_0 rfl rfl rfl ⟨by decide, Nat.le_of_ble_eq_true rfl, by decide, by decide⟩ (n := 5) rfl (RetI.on ?_)
  intro T r1 P hr1
  refine istoreN P d15_5 (l' := #[.val (.ref a), .val (.int u), .val (.int w), .val (.int r1), .unset]) rfl (n := 6) rfl ?_
  refine aloadN P d15_6 rfl rfl (n := 7) rfl ?_
  refine iloadN P d15_7 rfl (n := 8) rfl ?_
  refine iloadN P d15_8 rfl (n := 9) rfl ?_
  have D9 : own_D Z n0 h0 a (wa) (oa) (pr) (vb) (ab) (al) (sm) (wl) (gw) (k) (go) := ⟨E_a, F_p, F_vb, F_w, F_b, F_ab, F_al, F_o, F_s, A_w, A_o, lo_a, lo_w, n1, n2, n3⟩
  refine callP P d15_9 (a := a) (argsL := [(.int r1), (.int u)]) (rest := []) (c_iso l Z a0 hw a r1 u (wa) (oa) (pr) (vb) (ab) (al) (sm) (wl) (gw) (k) (go) h0 n0 P.low D9 (by omega) hk) E_a (hw _ (List.mem_of_getElem? (i := 93) rfl)) (hw _ (List.mem_of_getElem? (i := 94) rfl)) (hw _ (List.mem_of_getElem? (i := 6) rfl)) (hw _ (List.mem_of_getElem? (i := 95) rfl)) (hw _ (List.mem_of_getElem? (i := 7) rfl)) (hw _ (List.mem_of_getElem? (i := 96) rfl)) (by decide) pd_4 rfl rfl rfl ⟨by decide, Nat.le_of_ble_eq_true rfl, by decide, by decide⟩ (n := 12) rfl (Ret.on ?_)
  intro T P
  refine if0_eq P d15_12 (n' := 29) (n := 15) (by decide) rfl (fun hc12 => ?_) (fun hc12 => ?_)
  · -- pc 12 taken
    replace hc12 : (0 : Int) = (0 : Int) := hc12
    refine aloadN P d15_29 rfl rfl (n := 30) rfl ?_
    refine getF P d15_30 (hw _ (List.mem_of_getElem? (i := 29) rfl)) F_o (n := 33) rfl ?_
    intro T P
    refine alen P d15_33 A_o (x := (Int32.ofNat k)) hkk (n := 34) rfl ?_
    refine iconst P d15_34 (x := (1 : Int32)) rfl (n := 35) rfl ?_
    refine iadd P d15_35 (n := 36) rfl ?_
    refine nameI (x := ((Int32.ofNat k) + (1 : Int32))) (F := fun z2 => Jvm.Own.Ends p e below s rm_c_set n0 (fun v h => v = none ∧ ∃ (oa' : Addr) (go' : Nat → Int32), own_D Z n0 h a wa oa' pr vb ab al sm wl gw (k + 1) go' ∧ (∀ i, i < k + 1 → 0 ≤ (go' i).toInt ∧ (go' i).toInt < 256 * (u.toInt + 1))) T (mkF m 36 #[.val (.ref a), .val (.int u), .val (.int w), .val (.int r1), .unset] [(.int z2)])) ?_
    intro z2 hz2
    have tz2 : z2.toInt = (Int32.ofNat k).toInt + (1 : Int) := n_iadd hz2 rfl rfl (by omega)
    refine newP P d15_36 (hw _ (List.mem_of_getElem? (i := 97) rfl)) (k := (k + 1)) (cap := 5) ⟨by omega, by omega⟩ (by decide) (by decide) (n := 38) rfl ?_
    intro T h4 b3 P X5 g6 lo_b3 A_b3
    have ne_a_b3 : a ≠ b3 := Nat.ne_of_lt (g6 ▸ E_a.lt)
    have ne_oa_b3 : oa ≠ b3 := Nat.ne_of_lt (g6 ▸ A_o.lt)
    have ne_wa_b3 : wa ≠ b3 := Nat.ne_of_lt (g6 ▸ A_w.lt)
    replace E_a := Exa.ext X5 E_a
    replace F_p := Fld.ext X5 F_p
    replace F_vb := Fld.ext X5 F_vb
    replace F_w := Fld.ext X5 F_w
    replace F_b := Fld.ext X5 F_b
    replace F_ab := Fld.ext X5 F_ab
    replace F_al := Fld.ext X5 F_al
    replace F_o := Fld.ext X5 F_o
    replace F_s := Fld.ext X5 F_s
    replace A_w := A_w.ext X5
    replace A_o := A_o.ext X5
    replace A_b3 : ARI Z h4 b3 .int (k + 1) (fun _ => 0) := A_b3
    refine astore P d15_38 rfl (l' := #[.val (.ref a), .val (.int u), .val (.int w), .val (.int r1), .val (.ref b3)]) rfl (n := 40) rfl ?_
    refine aloadN P d15_40 rfl rfl (n := 41) rfl ?_
    refine getF P d15_41 (hw _ (List.mem_of_getElem? (i := 29) rfl)) F_o (n := 44) rfl ?_
    intro T P
    refine iconst P d15_44 (x := (0 : Int32)) rfl (n := 45) rfl ?_
    refine aload P d15_45 rfl rfl (n := 47) rfl ?_
    refine iconst P d15_47 (x := (0 : Int32)) rfl (n := 48) rfl ?_
    refine iloadN P d15_48 rfl (n := 49) rfl ?_
    refine acopy P d15_49 (hw _ (List.mem_of_getElem? (i := 98) rfl)) (hw _ (List.mem_of_getElem? (i := 101) rfl)) (hw _ (List.mem_of_getElem? (i := 99) rfl)) (hw _ (List.mem_of_getElem? (i := 100) rfl)) A_o A_b3 (fun i _ => rfl) (fun i _ => rfl) (S := 0) (D := 0) (N := k) ⟨by omega, by omega, by omega⟩ (by omega) (by omega) lo_b3 rfl ⟨by decide, by decide⟩ (n := 52) rfl ?_
    intro T h7 P K8 A9
    replace E_a := Exa.keep E_a K8
    replace F_p := Fld.keep F_p K8 (ninS ne_a_b3 nin0)
    replace F_vb := Fld.keep F_vb K8 (ninS ne_a_b3 nin0)
    replace F_w := Fld.keep F_w K8 (ninS ne_a_b3 nin0)
    replace F_b := Fld.keep F_b K8 (ninS ne_a_b3 nin0)
    replace F_ab := Fld.keep F_ab K8 (ninS ne_a_b3 nin0)
    replace F_al := Fld.keep F_al K8 (ninS ne_a_b3 nin0)
    replace F_o := Fld.keep F_o K8 (ninS ne_a_b3 nin0)
    replace F_s := Fld.keep F_s K8 (ninS ne_a_b3 nin0)
    replace A_w := A_w.keep K8 (ninS ne_wa_b3 nin0)
    replace A_o := A_o.keep K8 (ninS ne_oa_b3 nin0)
    obtain ⟨gg9, egg9⟩ : ∃ g : Nat → Int32, g = fun i => if 0 ≤ i ∧ i < 0 + k then go (0 + (i - 0)) else (fun _ => (0 : Int32)) i := ⟨_, rfl⟩
    replace A_b3 : ARI Z h7 b3 .int (k + 1) gg9 := by
      refine AR.congr A9 ?_
      intro i hi
      rw [egg9]
      dsimp only
      split <;> rfl
    refine aload P d15_52 rfl rfl (n := 54) rfl ?_
    refine iloadN P d15_54 rfl (n := 55) rfl ?_
    refine iloadN P d15_55 rfl (n := 56) rfl ?_
    refine iloadN P d15_56 rfl (n := 57) rfl ?_
    refine callS P d15_57 (argsL := [(.int u), (.int w)]) (rest := [(.int r1), (.ref b3)]) (c_ovf l Z a0 hw u w  h7 n0 P.low ) (hw _ (List.mem_of_getElem? (i := 102) rfl)) (hw _ (List.mem_of_getElem? (i := 103) rfl)) (hw _ (List.mem_of_getElem? (i := 7) rfl)) (hw _ (List.mem_of_getElem? (i := 104) rfl)) (by decide) pd_5 rfl rfl rfl ⟨by decide, Nat.le_of_ble_eq_true rfl, by decide, by decide⟩ (n := 60) rfl (Ret.on ?_)
    intro T P
    refine stI P d15_60 A_b3 (u := k) ⟨by omega, by omega⟩ lo_b3 (n := 61) rfl ?_
    intro T h10 P W11
    replace E_a := Exa.wr W11 E_a
    replace F_p := Fld.other W11 F_p (Or.inl ne_a_b3)
    replace F_vb := Fld.other W11 F_vb (Or.inl ne_a_b3)
    replace F_w := Fld.other W11 F_w (Or.inl ne_a_b3)
    replace F_b := Fld.other W11 F_b (Or.inl ne_a_b3)
    replace F_ab := Fld.other W11 F_ab (Or.inl ne_a_b3)
    replace F_al := Fld.other W11 F_al (Or.inl ne_a_b3)
    replace F_o := Fld.other W11 F_o (Or.inl ne_a_b3)
    replace F_s := Fld.other W11 F_s (Or.inl ne_a_b3)
    replace A_w := A_w.other W11 ne_wa_b3
    replace A_o := A_o.other W11 ne_oa_b3
    replace A_b3 := ARI.set A_b3 W11
    refine aloadN P d15_61 rfl rfl (n := 62) rfl ?_
    refine getF P d15_62 (hw _ (List.mem_of_getElem? (i := 29) rfl)) F_o (n := 65) rfl ?_
    intro T P
    refine iloadN P d15_65 rfl (n := 66) rfl ?_
    refine aload P d15_66 rfl rfl (n := 68) rfl ?_
    refine iloadN P d15_68 rfl (n := 69) rfl ?_
    refine iconst P d15_69 (x := (1 : Int32)) rfl (n := 70) rfl ?_
    refine iadd P d15_70 (n := 71) rfl ?_
    refine nameI (x := (r1 + (1 : Int32))) (F := fun z12 => Jvm.Own.Ends p e below s rm_c_set n0 (fun v h => v = none ∧ ∃ (oa' : Addr) (go' : Nat → Int32), own_D Z n0 h a wa oa' pr vb ab al sm wl gw (k + 1) go' ∧ (∀ i, i < k + 1 → 0 ≤ (go' i).toInt ∧ (go' i).toInt < 256 * (u.toInt + 1))) T (mkF m 71 #[.val (.ref a), .val (.int u), .val (.int w), .val (.int r1), .val (.ref b3)] [(.int z12), (.ref b3), (.int r1), (.ref oa)])) ?_
    intro z12 hz12
    have tz12 : z12.toInt = r1.toInt + (1 : Int) := n_iadd hz12 rfl rfl (by omega)
    refine aloadN P d15_71 rfl rfl (n := 72) rfl ?_
    refine getF P d15_72 (hw _ (List.mem_of_getElem? (i := 29) rfl)) F_o (n := 75) rfl ?_
    intro T P
    refine alen P d15_75 A_o (x := (Int32.ofNat k)) hkk (n := 76) rfl ?_
    refine iloadN P d15_76 rfl (n := 77) rfl ?_
    refine isub P d15_77 (n := 78) rfl ?_
    refine nameI (x := ((Int32.ofNat k) - r1)) (F := fun z13 => Jvm.Own.Ends p e below s rm_c_set n0 (fun v h => v = none ∧ ∃ (oa' : Addr) (go' : Nat → Int32), own_D Z n0 h a wa oa' pr vb ab al sm wl gw (k + 1) go' ∧ (∀ i, i < k + 1 → 0 ≤ (go' i).toInt ∧ (go' i).toInt < 256 * (u.toInt + 1))) T (mkF m 78 #[.val (.ref a), .val (.int u), .val (.int w), .val (.int r1), .val (.ref b3)] [(.int z13), (.int z12), (.ref b3), (.int r1), (.ref oa)])) ?_
    intro z13 hz13
    have tz13 : z13.toInt = (Int32.ofNat k).toInt - r1.toInt := n_isub hz13 rfl rfl (by omega)
    refine acopy P d15_78 (hw _ (List.mem_of_getElem? (i := 98) rfl)) (hw _ (List.mem_of_getElem? (i := 101) rfl)) (hw _ (List.mem_of_getElem? (i := 99) rfl)) (hw _ (List.mem_of_getElem? (i := 100) rfl)) A_o A_b3 (fun i _ => rfl) (fun i _ => rfl) (S := k) (D := (k + 1)) (N := 0) ⟨by omega, by omega, by omega⟩ (by omega) (by omega) lo_b3 rfl ⟨by decide, by decide⟩ (n := 81) rfl ?_
    intro T h14 P K15 A9
    replace E_a := Exa.keep E_a K15
    replace F_p := Fld.keep F_p K15 (ninS ne_a_b3 nin0)
    replace F_vb := Fld.keep F_vb K15 (ninS ne_a_b3 nin0)
    replace F_w := Fld.keep F_w K15 (ninS ne_a_b3 nin0)
    replace F_b := Fld.keep F_b K15 (ninS ne_a_b3 nin0)
    replace F_ab := Fld.keep F_ab K15 (ninS ne_a_b3 nin0)
    replace F_al := Fld.keep F_al K15 (ninS ne_a_b3 nin0)
    replace F_o := Fld.keep F_o K15 (ninS ne_a_b3 nin0)
    replace F_s := Fld.keep F_s K15 (ninS ne_a_b3 nin0)
    replace A_w := A_w.keep K15 (ninS ne_wa_b3 nin0)
    replace A_o := A_o.keep K15 (ninS ne_oa_b3 nin0)
    obtain ⟨gg16, egg16⟩ : ∃ g : Nat → Int32, g = fun i => if (k + 1) ≤ i ∧ i < (k + 1) + 0 then go (k + (i - (k + 1))) else (ovr gg9 k ((((u <<< ((8 : Int32) &&& 31)) ||| w)))) i := ⟨_, rfl⟩
    replace A_b3 : ARI Z h14 b3 .int (k + 1) gg16 := by
      refine AR.congr A9 ?_
      intro i hi
      rw [egg16]
      dsimp only
      split <;> rfl
    refine aloadN P d15_81 rfl rfl (n := 82) rfl ?_
    refine aload P d15_82 rfl rfl (n := 84) rfl ?_
    refine putF P d15_84 (hw _ (List.mem_of_getElem? (i := 29) rfl)) F_o E_a (Or.inl (hw _ (List.mem_of_getElem? (i := 30) rfl))) (hw _ (List.mem_of_getElem? (i := 6) rfl)) (ty := (.array .int)) (by decide) rfl rfl lo_a (n := 87) rfl ?_
    intro T h17 P W18
    replace E_a := Exa.wr W18 E_a
    replace F_p := Fld.other W18 F_p (Or.inr (slot_ne (Or.inr (hw _ (List.mem_of_getElem? (i := 19) rfl))) (Or.inl (hw _ (List.mem_of_getElem? (i := 30) rfl))) (by decide) (t := .int) (t' := (.array .int)) (by decide) (by decide)))
    replace F_vb := Fld.other W18 F_vb (Or.inr (slot_ne (Or.inr (hw _ (List.mem_of_getElem? (i := 21) rfl))) (Or.inl (hw _ (List.mem_of_getElem? (i := 30) rfl))) (by decide) (t := .int) (t' := (.array .int)) (by decide) (by decide)))
    replace F_w := Fld.other W18 F_w (Or.inr (slot_ne (Or.inr (hw _ (List.mem_of_getElem? (i := 26) rfl))) (Or.inl (hw _ (List.mem_of_getElem? (i := 30) rfl))) (by decide) (t := (.array .long)) (t' := (.array .int)) (by decide) (by decide)))
    replace F_b := Fld.other W18 F_b (Or.inr (slot_ne (Or.inl (hw _ (List.mem_of_getElem? (i := 51) rfl))) (Or.inl (hw _ (List.mem_of_getElem? (i := 30) rfl))) (by decide) (t := .int) (t' := (.array .int)) (by decide) (by decide)))
    replace F_ab := Fld.other W18 F_ab (Or.inr (slot_ne (Or.inl (hw _ (List.mem_of_getElem? (i := 37) rfl))) (Or.inl (hw _ (List.mem_of_getElem? (i := 30) rfl))) (by decide) (t := .int) (t' := (.array .int)) (by decide) (by decide)))
    replace F_al := Fld.other W18 F_al (Or.inr (slot_ne (Or.inl (hw _ (List.mem_of_getElem? (i := 106) rfl))) (Or.inl (hw _ (List.mem_of_getElem? (i := 30) rfl))) (by decide) (t := .int) (t' := (.array .int)) (by decide) (by decide)))
    replace F_s := Fld.other W18 F_s (Or.inr (slot_ne (Or.inl (hw _ (List.mem_of_getElem? (i := 53) rfl))) (Or.inl (hw _ (List.mem_of_getElem? (i := 30) rfl))) (by decide) (t := .long) (t' := (.array .int)) (by decide) (by decide)))
    replace A_w := A_w.other W18 (Ne.symm n1)
    replace A_o := A_o.other W18 (Ne.symm n2)
    replace A_b3 := A_b3.other W18 (Ne.symm ne_a_b3)
    replace F_o := Fld.same W18 F_o
    refine retV P d15_87 (by decide) (by decide) ?_
    refine ⟨rfl, b3, gg16, ⟨E_a, F_p, F_vb, F_w, F_b, F_ab, F_al, F_o, F_s, A_w, A_b3, lo_a, lo_w, n1, ne_a_b3, ne_wa_b3⟩, ?_⟩
    intro i hi
    have hov := own_ov u w hu (by omega)
    rw [egg16]
    dsimp only
    rw [if_neg (by omega)]
    by_cases q : i = k
    · rw [q, ovr_at]; omega
    · rw [ovr_ne _ _ (by omega), egg9]; dsimp only; rw [if_pos (by omega)]; have q2 := hb (0 + (i - 0)) (by omega); have q3 := hp (0 + (i - 0)) (by omega); omega
  · -- pc 12 not taken
    replace hc12 : ¬ (0 : Int) = (0 : Int) := hc12
    exact absurd hc12 (by decide)
theorem d14_0 : decode jdk_29_method_69_code 0 = .ok (.iload_n 0, 1) := by decide +kernel
theorem d14_1 : decode jdk_29_method_69_code 1 = .ok (.iload_n 1, 1) := by decide +kernel
theorem d14_2 : decode jdk_29_method_69_code 2 = .ok (.if_icmp .gt 7, 3) := by decide +kernel
theorem d14_5 : decode jdk_29_method_69_code 5 = .ok (.iload_n 0, 1) := by decide +kernel
theorem d14_6 : decode jdk_29_method_69_code 6 = .ok (.goto 4, 3) := by decide +kernel
theorem d14_9 : decode jdk_29_method_69_code 9 = .ok (.iload_n 1, 1) := by decide +kernel
theorem d14_10 : decode jdk_29_method_69_code 10 = .ok (.ireturn, 1) := by decide +kernel
theorem ef_14 (m : MethodId) (u : Int32) (w : Int32) : entryFrame m #[(.int u), (.int w)] 2 = mkF m 0 #[.val (.int u), .val (.int w)] [] := by first | (simp [entryFrame, mkF, argsToLocals, Value.category]; done) | rfl
abbrev rm_c_min : Room := { frames := 0, cells := 0, slots := 0, locals := 0 }
set_option maxRecDepth 65536 in
set_option maxHeartbeats 40000000 in
theorem c_min (l : Launch) (Z : State) (a0 : Array Value) (hw : ∀ d ∈ tables_1, d.before a0 Z = true) (u : Int32) (w : Int32)  (h0 : Heap) (n0 : Nat) (low : n0 ≤ h0.size)  :
    Meth l Z (⟨"java/lang/Math", "min", "(II)I"⟩ : MethodName) jdk_29_method_69_code 2 (some .int) rm_c_min #[(.int u), (.int w)] h0 n0 (RetI (fun z => (u.toInt ≤ w.toInt → z.toInt = u.toInt) ∧ (w.toInt ≤ u.toInt → z.toInt = w.toInt)) h0) := by
  refine Meth.of (Jvm.Free.JP.mathPlain rfl (by decide +kernel)) low ?_
  intro p e s m args below meth c T P
  refine Ends.cast (ef_14 m u w) ?_
  refine iloadN P d14_0 rfl (n := 1) rfl ?_
  refine iloadN P d14_1 rfl (n := 2) rfl ?_
  refine icmp_gt P d14_2 (n' := 9) (n := 5) (by decide) rfl (fun hc2 => ?_) (fun hc2 => ?_)
  · -- pc 2 taken
    refine iloadN P d14_9 rfl (n := 10) rfl ?_
    refine retI P d14_10 (by decide) (by decide) ?_
    refine RetI.mk ?_
    omega
  · -- pc 2 not taken
    refine iloadN P d14_5 rfl (n := 6) rfl ?_
    refine goto P d14_6 (n := 10) (by decide) ?_
    refine retI P d14_10 (by decide) (by decide) ?_
    refine RetI.mk ?_
    omega
theorem d12_0 : decode prog_1_method_32_code 0 = .ok (.aload_n 0, 1) := by decide +kernel
theorem d12_1 : decode prog_1_method_32_code 1 = .ok (.getfield 22, 3) := by decide +kernel
theorem d12_4 : decode prog_1_method_32_code 4 = .ok (.iload_n 2, 1) := by decide +kernel
theorem d12_5 : decode prog_1_method_32_code 5 = .ok (.iadd, 1) := by decide +kernel
theorem d12_6 : decode prog_1_method_32_code 6 = .ok (.istore 4, 2) := by decide +kernel
theorem d12_8 : decode prog_1_method_32_code 8 = .ok (.iload_n 2, 1) := by decide +kernel
theorem d12_9 : decode prog_1_method_32_code 9 = .ok (.bipush 15, 2) := by decide +kernel
theorem d12_11 : decode prog_1_method_32_code 11 = .ok (.if_icmp .ne 28, 3) := by decide +kernel
theorem d12_14 : decode prog_1_method_32_code 14 = .ok (.aload_n 0, 1) := by decide +kernel
theorem d12_15 : decode prog_1_method_32_code 15 = .ok (.iload_n 1, 1) := by decide +kernel
theorem d12_16 : decode prog_1_method_32_code 16 = .ok (.invokevirtual 185, 3) := by decide +kernel
theorem d12_19 : decode prog_1_method_32_code 19 = .ok (.istore 5, 2) := by decide +kernel
theorem d12_21 : decode prog_1_method_32_code 21 = .ok (.iload_n 3, 1) := by decide +kernel
theorem d12_22 : decode prog_1_method_32_code 22 = .ok (.bipush 15, 2) := by decide +kernel
theorem d12_24 : decode prog_1_method_32_code 24 = .ok (.isub, 1) := by decide +kernel
theorem d12_25 : decode prog_1_method_32_code 25 = .ok (.iload 5, 2) := by decide +kernel
theorem d12_27 : decode prog_1_method_32_code 27 = .ok (.if_icmp .gt 5, 3) := by decide +kernel
theorem d12_30 : decode prog_1_method_32_code 30 = .ok (.iconst 0, 1) := by decide +kernel
theorem d12_31 : decode prog_1_method_32_code 31 = .ok (.ireturn, 1) := by decide +kernel
theorem d12_32 : decode prog_1_method_32_code 32 = .ok (.iload 4, 2) := by decide +kernel
theorem d12_34 : decode prog_1_method_32_code 34 = .ok (.iload 5, 2) := by decide +kernel
theorem d12_36 : decode prog_1_method_32_code 36 = .ok (.iadd, 1) := by decide +kernel
theorem d12_37 : decode prog_1_method_32_code 37 = .ok (.istore 4, 2) := by decide +kernel
theorem d12_39 : decode prog_1_method_32_code 39 = .ok (.aload_n 0, 1) := by decide +kernel
theorem d12_40 : decode prog_1_method_32_code 40 = .ok (.iload 4, 2) := by decide +kernel
theorem d12_42 : decode prog_1_method_32_code 42 = .ok (.aload_n 0, 1) := by decide +kernel
theorem d12_43 : decode prog_1_method_32_code 43 = .ok (.getfield 22, 3) := by decide +kernel
theorem d12_46 : decode prog_1_method_32_code 46 = .ok (.iload_n 3, 1) := by decide +kernel
theorem d12_47 : decode prog_1_method_32_code 47 = .ok (.iadd, 1) := by decide +kernel
theorem d12_48 : decode prog_1_method_32_code 48 = .ok (.invokevirtual 188, 3) := by decide +kernel
theorem d12_51 : decode prog_1_method_32_code 51 = .ok (.iload_n 2, 1) := by decide +kernel
theorem d12_52 : decode prog_1_method_32_code 52 = .ok (.bipush 15, 2) := by decide +kernel
theorem d12_54 : decode prog_1_method_32_code 54 = .ok (.if_icmp .ge 28, 3) := by decide +kernel
theorem d12_57 : decode prog_1_method_32_code 57 = .ok (.aload_n 0, 1) := by decide +kernel
theorem d12_58 : decode prog_1_method_32_code 58 = .ok (.getfield 47, 3) := by decide +kernel
theorem d12_61 : decode prog_1_method_32_code 61 = .ok (.iload_n 1, 1) := by decide +kernel
theorem d12_62 : decode prog_1_method_32_code 62 = .ok (.iconst 4, 1) := by decide +kernel
theorem d12_63 : decode prog_1_method_32_code 63 = .ok (.iushr, 1) := by decide +kernel
theorem d12_64 : decode prog_1_method_32_code 64 = .ok (.dup2, 1) := by decide +kernel
theorem d12_65 : decode prog_1_method_32_code 65 = .ok (.laload, 1) := by decide +kernel
theorem d12_66 : decode prog_1_method_32_code 66 = .ok (.iload_n 3, 1) := by decide +kernel
theorem d12_67 : decode prog_1_method_32_code 67 = .ok (.bipush 15, 2) := by decide +kernel
theorem d12_69 : decode prog_1_method_32_code 69 = .ok (.invokestatic 174, 3) := by decide +kernel
theorem d12_72 : decode prog_1_method_32_code 72 = .ok (.iload_n 2, 1) := by decide +kernel
theorem d12_73 : decode prog_1_method_32_code 73 = .ok (.isub, 1) := by decide +kernel
theorem d12_74 : decode prog_1_method_32_code 74 = .ok (.i2l, 1) := by decide +kernel
theorem d12_75 : decode prog_1_method_32_code 75 = .ok (.iload_n 1, 1) := by decide +kernel
theorem d12_76 : decode prog_1_method_32_code 76 = .ok (.invokestatic 99, 3) := by decide +kernel
theorem d12_79 : decode prog_1_method_32_code 79 = .ok (.lshl, 1) := by decide +kernel
theorem d12_80 : decode prog_1_method_32_code 80 = .ok (.ladd, 1) := by decide +kernel
theorem d12_81 : decode prog_1_method_32_code 81 = .ok (.lastore, 1) := by decide +kernel
theorem d12_82 : decode prog_1_method_32_code 82 = .ok (.iload_n 3, 1) := by decide +kernel
theorem d12_83 : decode prog_1_method_32_code 83 = .ok (.bipush 15, 2) := by decide +kernel
theorem d12_85 : decode prog_1_method_32_code 85 = .ok (.if_icmp .le 12, 3) := by decide +kernel
theorem d12_88 : decode prog_1_method_32_code 88 = .ok (.aload_n 0, 1) := by decide +kernel
theorem d12_89 : decode prog_1_method_32_code 89 = .ok (.iload_n 1, 1) := by decide +kernel
theorem d12_90 : decode prog_1_method_32_code 90 = .ok (.iload_n 3, 1) := by decide +kernel
theorem d12_91 : decode prog_1_method_32_code 91 = .ok (.bipush 15, 2) := by decide +kernel
theorem d12_93 : decode prog_1_method_32_code 93 = .ok (.isub, 1) := by decide +kernel
theorem d12_94 : decode prog_1_method_32_code 94 = .ok (.invokevirtual 192, 3) := by decide +kernel
theorem d12_97 : decode prog_1_method_32_code 97 = .ok (.iload_n 2, 1) := by decide +kernel
theorem d12_98 : decode prog_1_method_32_code 98 = .ok (.ifCond .ne 24, 3) := by decide +kernel
theorem d12_101 : decode prog_1_method_32_code 101 = .ok (.aload_n 0, 1) := by decide +kernel
theorem d12_102 : decode prog_1_method_32_code 102 = .ok (.dup, 1) := by decide +kernel
theorem d12_103 : decode prog_1_method_32_code 103 = .ok (.getfield 18, 3) := by decide +kernel
theorem d12_106 : decode prog_1_method_32_code 106 = .ok (.iconst 1, 1) := by decide +kernel
theorem d12_107 : decode prog_1_method_32_code 107 = .ok (.isub, 1) := by decide +kernel
theorem d12_108 : decode prog_1_method_32_code 108 = .ok (.putfield 18, 3) := by decide +kernel
theorem d12_111 : decode prog_1_method_32_code 111 = .ok (.aload_n 0, 1) := by decide +kernel
theorem d12_112 : decode prog_1_method_32_code 112 = .ok (.getfield 18, 3) := by decide +kernel
theorem d12_115 : decode prog_1_method_32_code 115 = .ok (.ifCond .ne 7, 3) := by decide +kernel
theorem d12_118 : decode prog_1_method_32_code 118 = .ok (.aload_n 0, 1) := by decide +kernel
theorem d12_119 : decode prog_1_method_32_code 119 = .ok (.invokevirtual 195, 3) := by decide +kernel
theorem d12_122 : decode prog_1_method_32_code 122 = .ok (.iconst 1, 1) := by decide +kernel
theorem d12_123 : decode prog_1_method_32_code 123 = .ok (.ireturn, 1) := by decide +kernel
theorem ef_12 (m : MethodId) (a : Addr) (u : Int32) (hd : Int32) (d : Int32) : entryFrame m #[(.ref a), (.int u), (.int hd), (.int d)] 6 = mkF m 0 #[.val (.ref a), .val (.int u), .val (.int hd), .val (.int d), .unset, .unset] [] := by first | (simp [entryFrame, mkF, argsToLocals, Value.category]; done) | rfl
theorem pd_7 : parseMethodDescriptor "(II)V" = some ⟨[.int, .int], none⟩ := by decide +kernel
abbrev rm_c_from : Room := { frames := 4, cells := 1, slots := 5, locals := 61 }
set_option maxRecDepth 65536 in
set_option maxHeartbeats 40000000 in
theorem c_from (l : Launch) (Z : State) (a0 : Array Value) (hw : ∀ d ∈ tables_1, d.before a0 Z = true) (a : Addr) (u : Int32) (hd : Int32) (d : Int32) (wa oa : Addr) (pr vb ab al : Int32) (sm : Int64) (wl : Nat) (gw : Nat → Int64) (k : Nat) (go : Nat → Int32) (h0 : Heap) (n0 : Nat) (low : n0 ≤ h0.size) (D : own_D Z n0 h0 a wa oa pr vb ab al sm wl gw k go) (hu : 0 ≤ u.toInt ∧ u.toInt ≤ 15) (hk : k ≤ 4) (hb : ∀ i, i < k → (go i).toInt < 256 * u.toInt) (hp : ∀ i, i < k → 0 ≤ (go i).toInt) (hw0 : 1 ≤ wl) (hg : 0 ≤ (gw 0).toInt ∧ (gw 0).toInt < ((2 ^ (4 * u.toInt.toNat) : Nat) : Int)) (hh : hd.toInt = 0) (hd9 : 16 ≤ d.toInt ∧ d.toInt ≤ 61) (ha9 : 2 ≤ ab.toInt ∧ ab.toInt ≤ 1000) :
    Meth l Z (⟨"com/example/thrifty_tally/thriftytally/DenseRegisters", "raiseFrom", "(III)Z"⟩ : MethodName) prog_1_method_32_code 6 (some .boolean) rm_c_from #[(.ref a), (.int u), (.int hd), (.int d)] h0 n0 (fun v h => v = some (.int 1) ∧ ∃ (oa' : Addr) (go' : Nat → Int32) (ab' al' : Int32) (sm' : Int64) (gw' : Nat → Int64), own_D Z n0 h a wa oa' pr vb ab' al' sm' wl gw' (k + 1) go' ∧ ab'.toInt = ab.toInt - 1 ∧ (u.toInt < 15 → 0 ≤ (gw' 0).toInt ∧ (gw' 0).toInt < ((2 ^ (4 * (u.toInt.toNat + 1)) : Nat) : Int)) ∧ (∀ i, i < k + 1 → 0 ≤ (go' i).toInt ∧ (go' i).toInt < 256 * (u.toInt + 1))) := by
  refine Meth.of (plainFor_of_name pn_0) low ?_
  intro p e s m args below meth c T P
  refine Ends.cast (ef_12 m a u hd d) ?_
  have eL0 : (0 : Int32).toInt = 0 := rfl
  have eL15 : (15 : Int32).toInt = 15 := rfl
  obtain ⟨E_a, F_p, F_vb, F_w, F_b, F_ab, F_al, F_o, F_s, A_w, A_o, lo_a, lo_w, n1, n2, n3⟩ := D
  refine aloadN P d12_0 rfl rfl (n := 1) rfl ?_
  refine getF P d12_1 (hw _ (List.mem_of_getElem? (i := 50) rfl)) F_b (n := 4) rfl ?_
  intro T P
  refine iloadN P d12_4 rfl (n := 5) rfl ?_
  refine iadd P d12_5 (n := 6) rfl ?_
  refine nameI (x := ((0 : Int32) + hd)) (F := fun z1 => Jvm.Own.Ends p e below s rm_c_from n0 (fun v h => v = some (.int 1) ∧ ∃ (oa' : Addr) (go' : Nat → Int32) (ab' al' : Int32) (sm' : Int64) (gw' : Nat → Int64), own_D Z n0 h a wa oa' pr vb ab' al' sm' wl gw' (k + 1) go' ∧ ab'.toInt = ab.toInt - 1 ∧ (u.toInt < 15 → 0 ≤ (gw' 0).toInt ∧ (gw' 0).toInt < ((2 ^ (4 * (u.toInt.toNat + 1)) : Nat) : Int)) ∧ (∀ i, i < k + 1 → 0 ≤ (go' i).toInt ∧ (go' i).toInt < 256 * (u.toInt + 1))) T (mkF m 6 #[.val (.ref a), .val (.int u), .val (.int hd), .val (.int d), .unset, .unset] [(.int z1)])) ?_
  intro z1 hz1
  have tz1 : z1.toInt = (0 : Int) + hd.toInt := n_iadd hz1 rfl rfl (by omega)
  refine istore P d12_6 (l' := #[.val (.ref a), .val (.int u), .val (.int hd), .val (.int d), .val (.int z1), .unset]) rfl (n := 8) rfl ?_
  refine iloadN P d12_8 rfl (n := 9) rfl ?_
  refine bipush P d12_9 (x := (15 : Int32)) rfl (n := 11) rfl ?_
  refine icmp_ne P d12_11 (n' := 39) (n := 14) (by decide) rfl (fun hc11 => ?_) (fun hc11 => ?_)
  · -- pc 11 taken
    replace hc11 : ¬ hd.toInt = (15 : Int) := hc11
    refine aloadN P d12_39 rfl rfl (n := 40) rfl ?_
    refine iload P d12_40 rfl (n := 42) rfl ?_
    refine aloadN P d12_42 rfl rfl (n := 43) rfl ?_
    refine getF P d12_43 (hw _ (List.mem_of_getElem? (i := 50) rfl)) F_b (n := 46) rfl ?_
    intro T P
    refine iloadN P d12_46 rfl (n := 47) rfl ?_
    refine iadd P d12_47 (n := 48) rfl ?_
    refine nameI (x := ((0 : Int32) + d)) (F := fun z2 => Jvm.Own.Ends p e below s rm_c_from n0 (fun v h => v = some (.int 1) ∧ ∃ (oa' : Addr) (go' : Nat → Int32) (ab' al' : Int32) (sm' : Int64) (gw' : Nat → Int64), own_D Z n0 h a wa oa' pr vb ab' al' sm' wl gw' (k + 1) go' ∧ ab'.toInt = ab.toInt - 1 ∧ (u.toInt < 15 → 0 ≤ (gw' 0).toInt ∧ (gw' 0).toInt < ((2 ^ (4 * (u.toInt.toNat + 1)) : Nat) : Int)) ∧ (∀ i, i < k + 1 → 0 ≤ (go' i).toInt ∧ (go' i).toInt < 256 * (u.toInt + 1))) T (mkF m 48 #[.val (.ref a), .val (.int u), .val (.int hd), .val (.int d), .val (.int z1), .unset] [(.int z2), (.int z1), (.ref a)])) ?_
    intro z2 hz2
    have tz2 : z2.toInt = (0 : Int) + d.toInt := n_iadd hz2 rfl rfl (by omega)
    have D9 : own_D Z n0 h0 a (wa) (oa) (pr) (vb) (ab) (al) (sm) (wl) (gw) (k) (go) := ⟨E_a, F_p, F_vb, F_w, F_b, F_ab, F_al, F_o, F_s, A_w, A_o, lo_a, lo_w, n1, n2, n3⟩
    refine callP P d12_48 (a := a) (argsL := [(.int z1), (.int z2)]) (rest := []) (c_note l Z a0 hw a z1 z2 (wa) (oa) (pr) (vb) (ab) (al) (sm) (wl) (gw) (k) (go) h0 n0 P.low D9) E_a (hw _ (List.mem_of_getElem? (i := 70) rfl)) (hw _ (List.mem_of_getElem? (i := 71) rfl)) (hw _ (List.mem_of_getElem? (i := 6) rfl)) (hw _ (List.mem_of_getElem? (i := 72) rfl)) (hw _ (List.mem_of_getElem? (i := 7) rfl)) (hw _ (List.mem_of_getElem? (i := 73) rfl)) (by decide) pd_7 rfl rfl rfl ⟨by decide, Nat.le_of_ble_eq_true rfl, by decide, by decide⟩ (n := 51) rfl ?_
    rintro T h3 v P ⟨rfl, al4, sm5, D8⟩
    show Jvm.Own.Ends p e below s rm_c_from n0 (fun v h => v = some (.int 1) ∧ ∃ (oa' : Addr) (go' : Nat → Int32) (ab' al' : Int32) (sm' : Int64) (gw' : Nat → Int64), own_D Z n0 h a wa oa' pr vb ab' al' sm' wl gw' (k + 1) go' ∧ ab'.toInt = ab.toInt - 1 ∧ (u.toInt < 15 → 0 ≤ (gw' 0).toInt ∧ (gw' 0).toInt < ((2 ^ (4 * (u.toInt.toNat + 1)) : Nat) : Int)) ∧ (∀ i, i < k + 1 → 0 ≤ (go' i).toInt ∧ (go' i).toInt < 256 * (u.toInt + 1))) T (mkF m 51 #[.val (.ref a), .val (.int u), .val (.int hd), .val (.int d), .val (.int z1), .unset] [])
    obtain ⟨E_a, F_p, F_vb, F_w, F_b, F_ab, F_al, F_o, F_s, A_w, A_o, lo_a, lo_w, n1, n2, n3⟩ := D8
    refine iloadN P d12_51 rfl (n := 52) rfl ?_
    refine bipush P d12_52 (x := (15 : Int32)) rfl (n := 54) rfl ?_
    refine icmp_ge P d12_54 (n' := 82) (n := 57) (by decide) rfl (fun hc54 => ?_) (fun hc54 => ?_)
    · -- pc 54 taken
      replace hc54 : (15 : Int) ≤ hd.toInt := hc54
      exfalso; omega
    · -- pc 54 not taken
      replace hc54 : hd.toInt < (15 : Int) := hc54
      refine aloadN P d12_57 rfl rfl (n := 58) rfl ?_
      refine getF P d12_58 (hw _ (List.mem_of_getElem? (i := 25) rfl)) F_w (n := 61) rfl ?_
      intro T P
      refine iloadN P d12_61 rfl (n := 62) rfl ?_
      refine iconst P d12_62 (x := (4 : Int32)) rfl (n := 63) rfl ?_
      refine iushr P d12_63 (n := 64) rfl ?_
      refine nameI (x := ((u.toUInt32 >>> ((4 : Int32) &&& 31).toUInt32).toInt32)) (F := fun z6 => Jvm.Own.Ends p e below s rm_c_from n0 (fun v h => v = some (.int 1) ∧ ∃ (oa' : Addr) (go' : Nat → Int32) (ab' al' : Int32) (sm' : Int64) (gw' : Nat → Int64), own_D Z n0 h a wa oa' pr vb ab' al' sm' wl gw' (k + 1) go' ∧ ab'.toInt = ab.toInt - 1 ∧ (u.toInt < 15 → 0 ≤ (gw' 0).toInt ∧ (gw' 0).toInt < ((2 ^ (4 * (u.toInt.toNat + 1)) : Nat) : Int)) ∧ (∀ i, i < k + 1 → 0 ≤ (go' i).toInt ∧ (go' i).toInt < 256 * (u.toInt + 1))) T (mkF m 64 #[.val (.ref a), .val (.int u), .val (.int hd), .val (.int d), .val (.int z1), .unset] [(.int z6), (.ref wa)])) ?_
      intro z6 hz6
      have tz6 : z6.toInt = (u.toInt % 4294967296) / 16 := n_iushr 4 hz6 rfl (by decide)
      refine dupD P d12_64 rfl rfl (n := 65) rfl ?_
      refine laloadJ P d12_65 A_w (u := 0) ⟨by omega, by omega⟩ (n := 66) rfl ?_
      refine iloadN P d12_66 rfl (n := 67) rfl ?_
      refine bipush P d12_67 (x := (15 : Int32)) rfl (n := 69) rfl ?_
      refine callS P d12_69 (argsL := [(.int d), (.int (15 : Int32))]) (rest := [(.long (gw 0)), (.int z6), (.ref wa)]) (c_min l Z a0 hw d (15 : Int32) h3 n0 P.low ) (hw _ (List.mem_of_getElem? (i := 74) rfl)) (hw _ (List.mem_of_getElem? (i := 75) rfl)) (hw _ (List.mem_of_getElem? (i := 76) rfl)) (hw _ (List.mem_of_getElem? (i := 77) rfl)) (by decide) pd_5 rfl rfl rfl ⟨by decide, Nat.le_of_ble_eq_true rfl, by decide, by decide⟩ (n := 72) rfl (RetI.on ?_)
      intro T r7 P hr7
      refine iloadN P d12_72 rfl (n := 73) rfl ?_
      refine isub P d12_73 (n := 74) rfl ?_
      refine nameI (x := (r7 - hd)) (F := fun z8 => Jvm.Own.Ends p e below s rm_c_from n0 (fun v h => v = some (.int 1) ∧ ∃ (oa' : Addr) (go' : Nat → Int32) (ab' al' : Int32) (sm' : Int64) (gw' : Nat → Int64), own_D Z n0 h a wa oa' pr vb ab' al' sm' wl gw' (k + 1) go' ∧ ab'.toInt = ab.toInt - 1 ∧ (u.toInt < 15 → 0 ≤ (gw' 0).toInt ∧ (gw' 0).toInt < ((2 ^ (4 * (u.toInt.toNat + 1)) : Nat) : Int)) ∧ (∀ i, i < k + 1 → 0 ≤ (go' i).toInt ∧ (go' i).toInt < 256 * (u.toInt + 1))) T (mkF m 74 #[.val (.ref a), .val (.int u), .val (.int hd), .val (.int d), .val (.int z1), .unset] [(.int z8), (.long (gw 0)), (.int z6), (.ref wa)])) ?_
      intro z8 hz8
      have tz8 : z8.toInt = r7.toInt - hd.toInt := n_isub hz8 rfl rfl (by omega)
      refine i2l P d12_74 (n := 75) rfl ?_
      refine iloadN P d12_75 rfl (n := 76) rfl ?_
      refine callS P d12_76 (argsL := [(.int u)]) (rest := [(.long (z8.toInt64)), (.long (gw 0)), (.int z6), (.ref wa)]) (c_shift l Z a0 hw u  h3 n0 P.low ) (hw _ (List.mem_of_getElem? (i := 47) rfl)) (hw _ (List.mem_of_getElem? (i := 48) rfl)) (hw _ (List.mem_of_getElem? (i := 7) rfl)) (hw _ (List.mem_of_getElem? (i := 49) rfl)) (by decide) pd_0 rfl rfl rfl ⟨by decide, Nat.le_of_ble_eq_true rfl, by decide, by decide⟩ (n := 79) rfl (Ret.on ?_)
      intro T P
      refine lshl P d12_79 (n := 80) rfl ?_
      refine ladd P d12_80 (n := 81) rfl ?_
      refine stJ P d12_81 A_w (u := 0) ⟨by omega, by omega⟩ lo_w (n := 82) rfl ?_
      intro T h9 P W10
      replace E_a := Exa.wr W10 E_a
      replace F_p := Fld.other W10 F_p (Or.inl n1)
      replace F_vb := Fld.other W10 F_vb (Or.inl n1)
      replace F_w := Fld.other W10 F_w (Or.inl n1)
      replace F_b := Fld.other W10 F_b (Or.inl n1)
      replace F_ab := Fld.other W10 F_ab (Or.inl n1)
      replace F_al := Fld.other W10 F_al (Or.inl n1)
      replace F_o := Fld.other W10 F_o (Or.inl n1)
      replace F_s := Fld.other W10 F_s (Or.inl n1)
      replace A_o := A_o.other W10 (Ne.symm n3)
      replace A_w := ARJ.set A_w W10
      refine iloadN P d12_82 rfl (n := 83) rfl ?_
      refine bipush P d12_83 (x := (15 : Int32)) rfl (n := 85) rfl ?_
      refine icmp_le P d12_85 (n' := 97) (n := 88) (by decide) rfl (fun hc85 => ?_) (fun hc85 => ?_)
      · -- pc 85 taken
        replace hc85 : d.toInt ≤ (15 : Int) := hc85
        exfalso; omega
      · -- pc 85 not taken
        replace hc85 : (15 : Int) < d.toInt := hc85
        refine aloadN P d12_88 rfl rfl (n := 89) rfl ?_
        refine iloadN P d12_89 rfl (n := 90) rfl ?_
        refine iloadN P d12_90 rfl (n := 91) rfl ?_
        refine bipush P d12_91 (x := (15 : Int32)) rfl (n := 93) rfl ?_
        refine isub P d12_93 (n := 94) rfl ?_
        refine nameI (x := (d - (15 : Int32))) (F := fun z11 => Jvm.Own.Ends p e below s rm_c_from n0 (fun v h => v = some (.int 1) ∧ ∃ (oa' : Addr) (go' : Nat → Int32) (ab' al' : Int32) (sm' : Int64) (gw' : Nat → Int64), own_D Z n0 h a wa oa' pr vb ab' al' sm' wl gw' (k + 1) go' ∧ ab'.toInt = ab.toInt - 1 ∧ (u.toInt < 15 → 0 ≤ (gw' 0).toInt ∧ (gw' 0).toInt < ((2 ^ (4 * (u.toInt.toNat + 1)) : Nat) : Int)) ∧ (∀ i, i < k + 1 → 0 ≤ (go' i).toInt ∧ (go' i).toInt < 256 * (u.toInt + 1))) T (mkF m 94 #[.val (.ref a), .val (.int u), .val (.int hd), .val (.int d), .val (.int z1), .unset] [(.int z11), (.int u), (.ref a)])) ?_
        intro z11 hz11
        have tz11 : z11.toInt = d.toInt - (15 : Int) := n_isub hz11 rfl rfl (by omega)
        have D9 : own_D Z n0 h9 a (wa) (oa) (pr) (vb) (ab) (al4) (sm5) (wl) ((ovr gw 0 (((gw 0) + ((z8.toInt64) <<< (((own_sh u)) &&& 0x3f).toInt64))))) (k) (go) := ⟨E_a, F_p, F_vb, F_w, F_b, F_ab, F_al, F_o, F_s, A_w, A_o, lo_a, lo_w, n1, n2, n3⟩
        refine callP P d12_94 (a := a) (argsL := [(.int u), (.int z11)]) (rest := []) (c_set l Z a0 hw a u z11 (wa) (oa) (pr) (vb) (ab) (al4) (sm5) (wl) ((ovr gw 0 (((gw 0) + ((z8.toInt64) <<< (((own_sh u)) &&& 0x3f).toInt64))))) (k) (go) h9 n0 P.low D9 hu (by omega) hk hb hp) E_a (hw _ (List.mem_of_getElem? (i := 78) rfl)) (hw _ (List.mem_of_getElem? (i := 79) rfl)) (hw _ (List.mem_of_getElem? (i := 6) rfl)) (hw _ (List.mem_of_getElem? (i := 80) rfl)) (hw _ (List.mem_of_getElem? (i := 7) rfl)) (hw _ (List.mem_of_getElem? (i := 81) rfl)) (by decide) pd_7 rfl rfl rfl ⟨by decide, Nat.le_of_ble_eq_true rfl, by decide, by decide⟩ (n := 97) rfl ?_
        rintro T h12 v P ⟨rfl, oa13, go14, D8, hgo8⟩
        show Jvm.Own.Ends p e below s rm_c_from n0 (fun v h => v = some (.int 1) ∧ ∃ (oa' : Addr) (go' : Nat → Int32) (ab' al' : Int32) (sm' : Int64) (gw' : Nat → Int64), own_D Z n0 h a wa oa' pr vb ab' al' sm' wl gw' (k + 1) go' ∧ ab'.toInt = ab.toInt - 1 ∧ (u.toInt < 15 → 0 ≤ (gw' 0).toInt ∧ (gw' 0).toInt < ((2 ^ (4 * (u.toInt.toNat + 1)) : Nat) : Int)) ∧ (∀ i, i < k + 1 → 0 ≤ (go' i).toInt ∧ (go' i).toInt < 256 * (u.toInt + 1))) T (mkF m 97 #[.val (.ref a), .val (.int u), .val (.int hd), .val (.int d), .val (.int z1), .unset] [])
        obtain ⟨E_a, F_p, F_vb, F_w, F_b, F_ab, F_al, F_o, F_s, A_w, A_o, lo_a, lo_w, n1, n2, n3⟩ := D8
        refine iloadN P d12_97 rfl (n := 98) rfl ?_
        refine if0_ne P d12_98 (n' := 122) (n := 101) (by decide) rfl (fun hc98 => ?_) (fun hc98 => ?_)
        · -- pc 98 taken
          replace hc98 : ¬ hd.toInt = (0 : Int) := hc98
          exfalso; omega
        · -- pc 98 not taken
          replace hc98 : hd.toInt = (0 : Int) := hc98
          refine aloadN P d12_101 rfl rfl (n := 102) rfl ?_
          refine dup P d12_102 rfl (n := 103) rfl ?_
          refine getF P d12_103 (hw _ (List.mem_of_getElem? (i := 36) rfl)) F_ab (n := 106) rfl ?_
          intro T P
          refine iconst P d12_106 (x := (1 : Int32)) rfl (n := 107) rfl ?_
          refine isub P d12_107 (n := 108) rfl ?_
          refine nameI (x := (ab - (1 : Int32))) (F := fun z15 => Jvm.Own.Ends p e below s rm_c_from n0 (fun v h => v = some (.int 1) ∧ ∃ (oa' : Addr) (go' : Nat → Int32) (ab' al' : Int32) (sm' : Int64) (gw' : Nat → Int64), own_D Z n0 h a wa oa' pr vb ab' al' sm' wl gw' (k + 1) go' ∧ ab'.toInt = ab.toInt - 1 ∧ (u.toInt < 15 → 0 ≤ (gw' 0).toInt ∧ (gw' 0).toInt < ((2 ^ (4 * (u.toInt.toNat + 1)) : Nat) : Int)) ∧ (∀ i, i < k + 1 → 0 ≤ (go' i).toInt ∧ (go' i).toInt < 256 * (u.toInt + 1))) T (mkF m 108 #[.val (.ref a), .val (.int u), .val (.int hd), .val (.int d), .val (.int z1), .unset] [(.int z15), (.ref a)])) ?_
          intro z15 hz15
          have tz15 : z15.toInt = ab.toInt - (1 : Int) := n_isub hz15 rfl rfl (by omega)
          refine putF P d12_108 (hw _ (List.mem_of_getElem? (i := 36) rfl)) F_ab E_a (Or.inl (hw _ (List.mem_of_getElem? (i := 37) rfl))) (hw _ (List.mem_of_getElem? (i := 6) rfl)) (ty := .int) (by decide) rfl rfl lo_a (n := 111) rfl ?_
          intro T h16 P W17
          replace E_a := Exa.wr W17 E_a
          replace F_p := Fld.other W17 F_p (Or.inr (slot_ne (Or.inr (hw _ (List.mem_of_getElem? (i := 19) rfl))) (Or.inl (hw _ (List.mem_of_getElem? (i := 37) rfl))) (by decide) (t := .int) (t' := .int) (by decide) (by decide)))
          replace F_vb := Fld.other W17 F_vb (Or.inr (slot_ne (Or.inr (hw _ (List.mem_of_getElem? (i := 21) rfl))) (Or.inl (hw _ (List.mem_of_getElem? (i := 37) rfl))) (by decide) (t := .int) (t' := .int) (by decide) (by decide)))
          replace F_w := Fld.other W17 F_w (Or.inr (slot_ne (Or.inr (hw _ (List.mem_of_getElem? (i := 26) rfl))) (Or.inl (hw _ (List.mem_of_getElem? (i := 37) rfl))) (by decide) (t := (.array .long)) (t' := .int) (by decide) (by decide)))
          replace F_b := Fld.other W17 F_b (Or.inr (slot_ne (Or.inl (hw _ (List.mem_of_getElem? (i := 51) rfl))) (Or.inl (hw _ (List.mem_of_getElem? (i := 37) rfl))) (by decide) (t := .int) (t' := .int) (by decide) (by decide)))
          replace F_al := Fld.other W17 F_al (Or.inr (slot_ne (Or.inl (hw _ (List.mem_of_getElem? (i := 106) rfl))) (Or.inl (hw _ (List.mem_of_getElem? (i := 37) rfl))) (by decide) (t := .int) (t' := .int) (by decide) (by decide)))
          replace F_o := Fld.other W17 F_o (Or.inr (slot_ne (Or.inl (hw _ (List.mem_of_getElem? (i := 30) rfl))) (Or.inl (hw _ (List.mem_of_getElem? (i := 37) rfl))) (by decide) (t := (.array .int)) (t' := .int) (by decide) (by decide)))
          replace F_s := Fld.other W17 F_s (Or.inr (slot_ne (Or.inl (hw _ (List.mem_of_getElem? (i := 53) rfl))) (Or.inl (hw _ (List.mem_of_getElem? (i := 37) rfl))) (by decide) (t := .long) (t' := .int) (by decide) (by decide)))
          replace A_w := A_w.other W17 (Ne.symm n1)
          replace A_o := A_o.other W17 (Ne.symm n2)
          replace F_ab := Fld.same W17 F_ab
          refine aloadN P d12_111 rfl rfl (n := 112) rfl ?_
          refine getF P d12_112 (hw _ (List.mem_of_getElem? (i := 36) rfl)) F_ab (n := 115) rfl ?_
          intro T P
          refine if0_ne P d12_115 (n' := 122) (n := 118) (by decide) rfl (fun hc115 => ?_) (fun hc115 => ?_)
          · -- pc 115 taken
            replace hc115 : ¬ z15.toInt = (0 : Int) := hc115
            refine iconst P d12_122 (x := (1 : Int32)) rfl (n := 123) rfl ?_
            refine retZ P d12_123 (by decide) (by decide) (by decide) ?_
            have D9 : own_D Z n0 h16 a (wa) (oa13) (pr) (vb) (z15) (al4) (sm5) (wl) ((ovr gw 0 (((gw 0) + ((z8.toInt64) <<< (((own_sh u)) &&& 0x3f).toInt64))))) ((k + 1)) (go14) := ⟨E_a, F_p, F_vb, F_w, F_b, F_ab, F_al, F_o, F_s, A_w, A_o, lo_a, lo_w, n1, n2, n3⟩
            refine ⟨rfl, _, _, _, _, _, _, D9, by omega, ?_, hgo8⟩
            intro q
            rw [ovr_at]
            exact own_add (gw 0) z8 u ⟨hu.1, q⟩ (by omega) hg.1 hg.2
          · -- pc 115 not taken
            replace hc115 : z15.toInt = (0 : Int) := hc115
            exfalso; omega
  · -- pc 11 not taken
    replace hc11 : hd.toInt = (15 : Int) := hc11
    exfalso; omega
theorem d6_0 : decode prog_1_method_14_code 0 = .ok (.aload_n 0, 1) := by decide +kernel
theorem d6_1 : decode prog_1_method_14_code 1 = .ok (.iload_n 1, 1) := by decide +kernel
theorem d6_2 : decode prog_1_method_14_code 2 = .ok (.invokevirtual 78, 3) := by decide +kernel
theorem d6_5 : decode prog_1_method_14_code 5 = .ok (.istore_n 3, 1) := by decide +kernel
theorem d6_6 : decode prog_1_method_14_code 6 = .ok (.iload_n 2, 1) := by decide +kernel
theorem d6_7 : decode prog_1_method_14_code 7 = .ok (.aload_n 0, 1) := by decide +kernel
theorem d6_8 : decode prog_1_method_14_code 8 = .ok (.getfield 22, 3) := by decide +kernel
theorem d6_11 : decode prog_1_method_14_code 11 = .ok (.isub, 1) := by decide +kernel
theorem d6_12 : decode prog_1_method_14_code 12 = .ok (.istore 4, 2) := by decide +kernel
theorem d6_14 : decode prog_1_method_14_code 14 = .ok (.aload_n 0, 1) := by decide +kernel
theorem d6_15 : decode prog_1_method_14_code 15 = .ok (.getfield 18, 3) := by decide +kernel
theorem d6_18 : decode prog_1_method_14_code 18 = .ok (.iload_n 3, 1) := by decide +kernel
theorem d6_19 : decode prog_1_method_14_code 19 = .ok (.iconst 1, 1) := by decide +kernel
theorem d6_20 : decode prog_1_method_14_code 20 = .ok (.isub, 1) := by decide +kernel
theorem d6_21 : decode prog_1_method_14_code 21 = .ok (.bipush 31, 2) := by decide +kernel
theorem d6_23 : decode prog_1_method_14_code 23 = .ok (.iushr, 1) := by decide +kernel
theorem d6_24 : decode prog_1_method_14_code 24 = .ok (.isub, 1) := by decide +kernel
theorem d6_25 : decode prog_1_method_14_code 25 = .ok (.istore 5, 2) := by decide +kernel
theorem d6_27 : decode prog_1_method_14_code 27 = .ok (.iload 4, 2) := by decide +kernel
theorem d6_29 : decode prog_1_method_14_code 29 = .ok (.iload_n 3, 1) := by decide +kernel
theorem d6_30 : decode prog_1_method_14_code 30 = .ok (.if_icmp .gt 9, 3) := by decide +kernel
theorem d6_33 : decode prog_1_method_14_code 33 = .ok (.iconst 0, 1) := by decide +kernel
theorem d6_34 : decode prog_1_method_14_code 34 = .ok (.istore 6, 2) := by decide +kernel
theorem d6_36 : decode prog_1_method_14_code 36 = .ok (.goto 91, 3) := by decide +kernel
theorem d6_39 : decode prog_1_method_14_code 39 = .ok (.bipush 15, 2) := by decide +kernel
theorem d6_41 : decode prog_1_method_14_code 41 = .ok (.iload 4, 2) := by decide +kernel
theorem d6_43 : decode prog_1_method_14_code 43 = .ok (.isub, 1) := by decide +kernel
theorem d6_44 : decode prog_1_method_14_code 44 = .ok (.aload_n 0, 1) := by decide +kernel
theorem d6_45 : decode prog_1_method_14_code 45 = .ok (.getfield 38, 3) := by decide +kernel
theorem d6_48 : decode prog_1_method_14_code 48 = .ok (.iload_n 2, 1) := by decide +kernel
theorem d6_49 : decode prog_1_method_14_code 49 = .ok (.isub, 1) := by decide +kernel
theorem d6_50 : decode prog_1_method_14_code 50 = .ok (.ior, 1) := by decide +kernel
theorem d6_51 : decode prog_1_method_14_code 51 = .ok (.iload 5, 2) := by decide +kernel
theorem d6_53 : decode prog_1_method_14_code 53 = .ok (.iconst 1, 1) := by decide +kernel
theorem d6_54 : decode prog_1_method_14_code 54 = .ok (.isub, 1) := by decide +kernel
theorem d6_55 : decode prog_1_method_14_code 55 = .ok (.ior, 1) := by decide +kernel
theorem d6_56 : decode prog_1_method_14_code 56 = .ok (.ifCond .lt 61, 3) := by decide +kernel
theorem d6_59 : decode prog_1_method_14_code 59 = .ok (.aload_n 0, 1) := by decide +kernel
theorem d6_60 : decode prog_1_method_14_code 60 = .ok (.dup, 1) := by decide +kernel
theorem d6_61 : decode prog_1_method_14_code 61 = .ok (.getfield 92, 3) := by decide +kernel
theorem d6_64 : decode prog_1_method_14_code 64 = .ok (.aload_n 0, 1) := by decide +kernel
theorem d6_65 : decode prog_1_method_14_code 65 = .ok (.iload_n 2, 1) := by decide +kernel
theorem d6_66 : decode prog_1_method_14_code 66 = .ok (.invokevirtual 95, 3) := by decide +kernel
theorem d6_69 : decode prog_1_method_14_code 69 = .ok (.aload_n 0, 1) := by decide +kernel
theorem d6_70 : decode prog_1_method_14_code 70 = .ok (.aload_n 0, 1) := by decide +kernel
theorem d6_71 : decode prog_1_method_14_code 71 = .ok (.getfield 22, 3) := by decide +kernel
theorem d6_74 : decode prog_1_method_14_code 74 = .ok (.iload_n 3, 1) := by decide +kernel
theorem d6_75 : decode prog_1_method_14_code 75 = .ok (.iadd, 1) := by decide +kernel
theorem d6_76 : decode prog_1_method_14_code 76 = .ok (.invokevirtual 95, 3) := by decide +kernel
theorem d6_79 : decode prog_1_method_14_code 79 = .ok (.lsub, 1) := by decide +kernel
theorem d6_80 : decode prog_1_method_14_code 80 = .ok (.ladd, 1) := by decide +kernel
theorem d6_81 : decode prog_1_method_14_code 81 = .ok (.putfield 92, 3) := by decide +kernel
theorem d6_84 : decode prog_1_method_14_code 84 = .ok (.aload_n 0, 1) := by decide +kernel
theorem d6_85 : decode prog_1_method_14_code 85 = .ok (.getfield 47, 3) := by decide +kernel
theorem d6_88 : decode prog_1_method_14_code 88 = .ok (.iload_n 1, 1) := by decide +kernel
theorem d6_89 : decode prog_1_method_14_code 89 = .ok (.iconst 4, 1) := by decide +kernel
theorem d6_90 : decode prog_1_method_14_code 90 = .ok (.iushr, 1) := by decide +kernel
theorem d6_91 : decode prog_1_method_14_code 91 = .ok (.dup2, 1) := by decide +kernel
theorem d6_92 : decode prog_1_method_14_code 92 = .ok (.laload, 1) := by decide +kernel
theorem d6_93 : decode prog_1_method_14_code 93 = .ok (.iload 4, 2) := by decide +kernel
theorem d6_95 : decode prog_1_method_14_code 95 = .ok (.iload_n 3, 1) := by decide +kernel
theorem d6_96 : decode prog_1_method_14_code 96 = .ok (.isub, 1) := by decide +kernel
theorem d6_97 : decode prog_1_method_14_code 97 = .ok (.i2l, 1) := by decide +kernel
theorem d6_98 : decode prog_1_method_14_code 98 = .ok (.iload_n 1, 1) := by decide +kernel
theorem d6_99 : decode prog_1_method_14_code 99 = .ok (.invokestatic 99, 3) := by decide +kernel
theorem d6_102 : decode prog_1_method_14_code 102 = .ok (.lshl, 1) := by decide +kernel
theorem d6_103 : decode prog_1_method_14_code 103 = .ok (.ladd, 1) := by decide +kernel
theorem d6_104 : decode prog_1_method_14_code 104 = .ok (.lastore, 1) := by decide +kernel
theorem d6_105 : decode prog_1_method_14_code 105 = .ok (.aload_n 0, 1) := by decide +kernel
theorem d6_106 : decode prog_1_method_14_code 106 = .ok (.iload 5, 2) := by decide +kernel
theorem d6_108 : decode prog_1_method_14_code 108 = .ok (.putfield 18, 3) := by decide +kernel
theorem d6_111 : decode prog_1_method_14_code 111 = .ok (.iconst 1, 1) := by decide +kernel
theorem d6_112 : decode prog_1_method_14_code 112 = .ok (.istore 6, 2) := by decide +kernel
theorem d6_114 : decode prog_1_method_14_code 114 = .ok (.goto 13, 3) := by decide +kernel
theorem d6_117 : decode prog_1_method_14_code 117 = .ok (.aload_n 0, 1) := by decide +kernel
theorem d6_118 : decode prog_1_method_14_code 118 = .ok (.iload_n 1, 1) := by decide +kernel
theorem d6_119 : decode prog_1_method_14_code 119 = .ok (.iload_n 3, 1) := by decide +kernel
theorem d6_120 : decode prog_1_method_14_code 120 = .ok (.iload 4, 2) := by decide +kernel
theorem d6_122 : decode prog_1_method_14_code 122 = .ok (.invokevirtual 102, 3) := by decide +kernel
theorem d6_125 : decode prog_1_method_14_code 125 = .ok (.istore 6, 2) := by decide +kernel
theorem d6_127 : decode prog_1_method_14_code 127 = .ok (.iload 6, 2) := by decide +kernel
theorem d6_129 : decode prog_1_method_14_code 129 = .ok (.ireturn, 1) := by decide +kernel
theorem ef_6 (m : MethodId) (a : Addr) (u : Int32) (w : Int32) : entryFrame m #[(.ref a), (.int u), (.int w)] 7 = mkF m 0 #[.val (.ref a), .val (.int u), .val (.int w), .unset, .unset, .unset, .unset] [] := by first | (simp [entryFrame, mkF, argsToLocals, Value.category]; done) | rfl
theorem pd_8 : parseMethodDescriptor "(III)Z" = some ⟨[.int, .int, .int], some .boolean⟩ := by decide +kernel
abbrev rm_c_raise : Room := { frames := 5, cells := 1, slots := 5, locals := 78 }
set_option maxRecDepth 65536 in
set_option maxHeartbeats 40000000 in
theorem c_raise (l : Launch) (Z : State) (a0 : Array Value) (hw : ∀ d ∈ tables_1, d.before a0 Z = true) (a : Addr) (u : Int32) (w : Int32) (wa oa : Addr) (pr vb ab al : Int32) (sm : Int64) (wl : Nat) (gw : Nat → Int64) (k : Nat) (go : Nat → Int32) (h0 : Heap) (n0 : Nat) (low : n0 ≤ h0.size) (D : own_D Z n0 h0 a wa oa pr vb ab al sm wl gw k go) (hu : 0 ≤ u.toInt ∧ u.toInt ≤ 15) (hk : k ≤ 4) (hb : ∀ i, i < k → (go i).toInt < 256 * u.toInt) (hp : ∀ i, i < k → 0 ≤ (go i).toInt) (hw0 : 1 ≤ wl) (hg : 0 ≤ (gw 0).toInt ∧ (gw 0).toInt < ((2 ^ (4 * u.toInt.toNat) : Nat) : Int)) (hw9 : 0 ≤ w.toInt ∧ w.toInt + pr.toInt ≤ 65) (hpr : 4 ≤ pr.toInt ∧ pr.toInt ≤ 7) (hvb : vb.toInt = 64 - pr.toInt) (ha9 : 3 ≤ ab.toInt ∧ ab.toInt ≤ 1000) :
    Meth l Z (⟨"com/example/thrifty_tally/thriftytally/DenseRegisters", "raise", "(II)Z"⟩ : MethodName) prog_1_method_14_code 7 (some .boolean) rm_c_raise #[(.ref a), (.int u), (.int w)] h0 n0 (fun v h => ∃ r : Int32, v = some (.int r) ∧ ∃ (oa' : Addr) (k' : Nat) (go' : Nat → Int32) (ab' al' : Int32) (sm' : Int64) (gw' : Nat → Int64), own_D Z n0 h a wa oa' pr vb ab' al' sm' wl gw' k' go' ∧ k' = (if 15 < w.toInt then k + 1 else k) ∧ (ab.toInt - 1 ≤ ab'.toInt ∧ ab'.toInt ≤ ab.toInt) ∧ (u.toInt < 15 → 0 ≤ (gw' 0).toInt ∧ (gw' 0).toInt < ((2 ^ (4 * (u.toInt.toNat + 1)) : Nat) : Int)) ∧ (∀ i, i < k' → 0 ≤ (go' i).toInt ∧ (go' i).toInt < 256 * (u.toInt + 1))) := by
  refine Meth.of (plainFor_of_name pn_0) low ?_
  intro p e s m args below meth c T P
  refine Ends.cast (ef_6 m a u w) ?_
  have eL0 : (0 : Int32).toInt = 0 := rfl
  have eL15 : (15 : Int32).toInt = 15 := rfl
  obtain ⟨E_a, F_p, F_vb, F_w, F_b, F_ab, F_al, F_o, F_s, A_w, A_o, lo_a, lo_w, n1, n2, n3⟩ := D
  refine aloadN P d6_0 rfl rfl (n := 1) rfl ?_
  refine iloadN P d6_1 rfl (n := 2) rfl ?_
  have D9 : own_D Z n0 h0 a (wa) (oa) (pr) (vb) (ab) (al) (sm) (wl) (gw) (k) (go) := ⟨E_a, F_p, F_vb, F_w, F_b, F_ab, F_al, F_o, F_s, A_w, A_o, lo_a, lo_w, n1, n2, n3⟩
  refine callP P d6_2 (a := a) (argsL := [(.int u)]) (rest := []) (c_delta l Z a0 hw a u (wa) (oa) (pr) (vb) (ab) (al) (sm) (wl) (gw) (k) (go) h0 n0 P.low D9 (by omega) (by omega) (by omega)) E_a (hw _ (List.mem_of_getElem? (i := 43) rfl)) (hw _ (List.mem_of_getElem? (i := 44) rfl)) (hw _ (List.mem_of_getElem? (i := 6) rfl)) (hw _ (List.mem_of_getElem? (i := 45) rfl)) (hw _ (List.mem_of_getElem? (i := 7) rfl)) (hw _ (List.mem_of_getElem? (i := 46) rfl)) (by decide) pd_0 rfl rfl rfl ⟨by decide, Nat.le_of_ble_eq_true rfl, by decide, by decide⟩ (n := 5) rfl (Ret.on ?_)
  intro T P
  refine istoreN P d6_5 (l' := #[.val (.ref a), .val (.int u), .val (.int w), .val (.int (0 : Int32)), .unset, .unset, .unset]) rfl (n := 6) rfl ?_
  refine iloadN P d6_6 rfl (n := 7) rfl ?_
  refine aloadN P d6_7 rfl rfl (n := 8) rfl ?_
  refine getF P d6_8 (hw _ (List.mem_of_getElem? (i := 50) rfl)) F_b (n := 11) rfl ?_
  intro T P
  refine isub P d6_11 (n := 12) rfl ?_
  refine nameI (x := (w - (0 : Int32))) (F := fun z1 => Jvm.Own.Ends p e below s rm_c_raise n0 (fun v h => ∃ r : Int32, v = some (.int r) ∧ ∃ (oa' : Addr) (k' : Nat) (go' : Nat → Int32) (ab' al' : Int32) (sm' : Int64) (gw' : Nat → Int64), own_D Z n0 h a wa oa' pr vb ab' al' sm' wl gw' k' go' ∧ k' = (if 15 < w.toInt then k + 1 else k) ∧ (ab.toInt - 1 ≤ ab'.toInt ∧ ab'.toInt ≤ ab.toInt) ∧ (u.toInt < 15 → 0 ≤ (gw' 0).toInt ∧ (gw' 0).toInt < ((2 ^ (4 * (u.toInt.toNat + 1)) : Nat) : Int)) ∧ (∀ i, i < k' → 0 ≤ (go' i).toInt ∧ (go' i).toInt < 256 * (u.toInt + 1))) T (mkF m 12 #[.val (.ref a), .val (.int u), .val (.int w), .val (.int (0 : Int32)), .unset, .unset, .unset] [(.int z1)])) ?_
  intro z1 hz1
  have tz1 : z1.toInt = w.toInt - (0 : Int) := n_isub hz1 rfl rfl (by omega)
  refine istore P d6_12 (l' := #[.val (.ref a), .val (.int u), .val (.int w), .val (.int (0 : Int32)), .val (.int z1), .unset, .unset]) rfl (n := 14) rfl ?_
  refine aloadN P d6_14 rfl rfl (n := 15) rfl ?_
  refine getF P d6_15 (hw _ (List.mem_of_getElem? (i := 36) rfl)) F_ab (n := 18) rfl ?_
  intro T P
  refine iloadN P d6_18 rfl (n := 19) rfl ?_
  refine iconst P d6_19 (x := (1 : Int32)) rfl (n := 20) rfl ?_
  refine isub P d6_20 (n := 21) rfl ?_
  rw [show ((0 : Int32) - (1 : Int32)) = (-1 : Int32) from by decide]
  refine bipush P d6_21 (x := (31 : Int32)) rfl (n := 23) rfl ?_
  refine iushr P d6_23 (n := 24) rfl ?_
  rw [show (((-1 : Int32).toUInt32 >>> ((31 : Int32) &&& 31).toUInt32).toInt32) = (1 : Int32) from by decide]
  refine isub P d6_24 (n := 25) rfl ?_
  refine nameI (x := (ab - (1 : Int32))) (F := fun z2 => Jvm.Own.Ends p e below s rm_c_raise n0 (fun v h => ∃ r : Int32, v = some (.int r) ∧ ∃ (oa' : Addr) (k' : Nat) (go' : Nat → Int32) (ab' al' : Int32) (sm' : Int64) (gw' : Nat → Int64), own_D Z n0 h a wa oa' pr vb ab' al' sm' wl gw' k' go' ∧ k' = (if 15 < w.toInt then k + 1 else k) ∧ (ab.toInt - 1 ≤ ab'.toInt ∧ ab'.toInt ≤ ab.toInt) ∧ (u.toInt < 15 → 0 ≤ (gw' 0).toInt ∧ (gw' 0).toInt < ((2 ^ (4 * (u.toInt.toNat + 1)) : Nat) : Int)) ∧ (∀ i, i < k' → 0 ≤ (go' i).toInt ∧ (go' i).toInt < 256 * (u.toInt + 1))) T (mkF m 25 #[.val (.ref a), .val (.int u), .val (.int w), .val (.int (0 : Int32)), .val (.int z1), .unset, .unset] [(.int z2)])) ?_
  intro z2 hz2
  have tz2 : z2.toInt = ab.toInt - (1 : Int) := n_isub hz2 rfl rfl (by omega)
  refine istore P d6_25 (l' := #[.val (.ref a), .val (.int u), .val (.int w), .val (.int (0 : Int32)), .val (.int z1), .val (.int z2), .unset]) rfl (n := 27) rfl ?_
  refine iload P d6_27 rfl (n := 29) rfl ?_
  refine iloadN P d6_29 rfl (n := 30) rfl ?_
  refine icmp_gt P d6_30 (n' := 39) (n := 33) (by decide) rfl (fun hc30 => ?_) (fun hc30 => ?_)
  · -- pc 30 taken
    replace hc30 : (0 : Int) < z1.toInt := hc30
    refine bipush P d6_39 (x := (15 : Int32)) rfl (n := 41) rfl ?_
    refine iload P d6_41 rfl (n := 43) rfl ?_
    refine isub P d6_43 (n := 44) rfl ?_
    refine nameI (x := ((15 : Int32) - z1)) (F := fun z3 => Jvm.Own.Ends p e below s rm_c_raise n0 (fun v h => ∃ r : Int32, v = some (.int r) ∧ ∃ (oa' : Addr) (k' : Nat) (go' : Nat → Int32) (ab' al' : Int32) (sm' : Int64) (gw' : Nat → Int64), own_D Z n0 h a wa oa' pr vb ab' al' sm' wl gw' k' go' ∧ k' = (if 15 < w.toInt then k + 1 else k) ∧ (ab.toInt - 1 ≤ ab'.toInt ∧ ab'.toInt ≤ ab.toInt) ∧ (u.toInt < 15 → 0 ≤ (gw' 0).toInt ∧ (gw' 0).toInt < ((2 ^ (4 * (u.toInt.toNat + 1)) : Nat) : Int)) ∧ (∀ i, i < k' → 0 ≤ (go' i).toInt ∧ (go' i).toInt < 256 * (u.toInt + 1))) T (mkF m 44 #[.val (.ref a), .val (.int u), .val (.int w), .val (.int (0 : Int32)), .val (.int z1), .val (.int z2), .unset] [(.int z3)])) ?_
    intro z3 hz3
    have tz3 : z3.toInt = (15 : Int) - z1.toInt := n_isub hz3 rfl rfl (by omega)
    refine aloadN P d6_44 rfl rfl (n := 45) rfl ?_
    refine getF P d6_45 (hw _ (List.mem_of_getElem? (i := 20) rfl)) F_vb (n := 48) rfl ?_
    intro T P
    refine iloadN P d6_48 rfl (n := 49) rfl ?_
    refine isub P d6_49 (n := 50) rfl ?_
    refine nameI (x := (vb - w)) (F := fun z4 => Jvm.Own.Ends p e below s rm_c_raise n0 (fun v h => ∃ r : Int32, v = some (.int r) ∧ ∃ (oa' : Addr) (k' : Nat) (go' : Nat → Int32) (ab' al' : Int32) (sm' : Int64) (gw' : Nat → Int64), own_D Z n0 h a wa oa' pr vb ab' al' sm' wl gw' k' go' ∧ k' = (if 15 < w.toInt then k + 1 else k) ∧ (ab.toInt - 1 ≤ ab'.toInt ∧ ab'.toInt ≤ ab.toInt) ∧ (u.toInt < 15 → 0 ≤ (gw' 0).toInt ∧ (gw' 0).toInt < ((2 ^ (4 * (u.toInt.toNat + 1)) : Nat) : Int)) ∧ (∀ i, i < k' → 0 ≤ (go' i).toInt ∧ (go' i).toInt < 256 * (u.toInt + 1))) T (mkF m 50 #[.val (.ref a), .val (.int u), .val (.int w), .val (.int (0 : Int32)), .val (.int z1), .val (.int z2), .unset] [(.int z4), (.int z3)])) ?_
    intro z4 hz4
    have tz4 : z4.toInt = vb.toInt - w.toInt := n_isub hz4 rfl rfl (by omega)
    refine ior P d6_50 (n := 51) rfl ?_
    refine iload P d6_51 rfl (n := 53) rfl ?_
    refine iconst P d6_53 (x := (1 : Int32)) rfl (n := 54) rfl ?_
    refine isub P d6_54 (n := 55) rfl ?_
    refine nameI (x := (z2 - (1 : Int32))) (F := fun z5 => Jvm.Own.Ends p e below s rm_c_raise n0 (fun v h => ∃ r : Int32, v = some (.int r) ∧ ∃ (oa' : Addr) (k' : Nat) (go' : Nat → Int32) (ab' al' : Int32) (sm' : Int64) (gw' : Nat → Int64), own_D Z n0 h a wa oa' pr vb ab' al' sm' wl gw' k' go' ∧ k' = (if 15 < w.toInt then k + 1 else k) ∧ (ab.toInt - 1 ≤ ab'.toInt ∧ ab'.toInt ≤ ab.toInt) ∧ (u.toInt < 15 → 0 ≤ (gw' 0).toInt ∧ (gw' 0).toInt < ((2 ^ (4 * (u.toInt.toNat + 1)) : Nat) : Int)) ∧ (∀ i, i < k' → 0 ≤ (go' i).toInt ∧ (go' i).toInt < 256 * (u.toInt + 1))) T (mkF m 55 #[.val (.ref a), .val (.int u), .val (.int w), .val (.int (0 : Int32)), .val (.int z1), .val (.int z2), .unset] [(.int z5), (.int (z3 ||| z4))])) ?_
    intro z5 hz5
    have tz5 : z5.toInt = z2.toInt - (1 : Int) := n_isub hz5 rfl rfl (by omega)
    refine ior P d6_55 (n := 56) rfl ?_
    have ho := own_or3 z3 z4 z5
    refine if0_lt P d6_56 (n' := 117) (n := 59) (by decide) rfl (fun hc56 => ?_) (fun hc56 => ?_)
    · -- pc 56 taken
      replace hc56 : ((z3 ||| z4) ||| z5).toInt < (0 : Int) := hc56
      refine aloadN P d6_117 rfl rfl (n := 118) rfl ?_
      refine iloadN P d6_118 rfl (n := 119) rfl ?_
      refine iloadN P d6_119 rfl (n := 120) rfl ?_
      refine iload P d6_120 rfl (n := 122) rfl ?_
      have D9 : own_D Z n0 h0 a (wa) (oa) (pr) (vb) (ab) (al) (sm) (wl) (gw) (k) (go) := ⟨E_a, F_p, F_vb, F_w, F_b, F_ab, F_al, F_o, F_s, A_w, A_o, lo_a, lo_w, n1, n2, n3⟩
      refine callP P d6_122 (a := a) (argsL := [(.int u), (.int (0 : Int32)), (.int z1)]) (rest := []) (c_from l Z a0 hw a u (0 : Int32) z1 (wa) (oa) (pr) (vb) (ab) (al) (sm) (wl) (gw) (k) (go) h0 n0 P.low D9 hu hk hb hp hw0 hg (by omega) (by omega) (by omega)) E_a (hw _ (List.mem_of_getElem? (i := 66) rfl)) (hw _ (List.mem_of_getElem? (i := 67) rfl)) (hw _ (List.mem_of_getElem? (i := 6) rfl)) (hw _ (List.mem_of_getElem? (i := 68) rfl)) (hw _ (List.mem_of_getElem? (i := 7) rfl)) (hw _ (List.mem_of_getElem? (i := 69) rfl)) (by decide) pd_8 rfl rfl rfl ⟨by decide, Nat.le_of_ble_eq_true rfl, by decide, by decide⟩ (n := 125) rfl ?_
      rintro T h6 v P ⟨rfl, oa9, go9, ab9, al9, sm9, gw9, D8, hab9, hgw9, hgo9⟩
      show Jvm.Own.Ends p e below s rm_c_raise n0 (fun v h => ∃ r : Int32, v = some (.int r) ∧ ∃ (oa' : Addr) (k' : Nat) (go' : Nat → Int32) (ab' al' : Int32) (sm' : Int64) (gw' : Nat → Int64), own_D Z n0 h a wa oa' pr vb ab' al' sm' wl gw' k' go' ∧ k' = (if 15 < w.toInt then k + 1 else k) ∧ (ab.toInt - 1 ≤ ab'.toInt ∧ ab'.toInt ≤ ab.toInt) ∧ (u.toInt < 15 → 0 ≤ (gw' 0).toInt ∧ (gw' 0).toInt < ((2 ^ (4 * (u.toInt.toNat + 1)) : Nat) : Int)) ∧ (∀ i, i < k' → 0 ≤ (go' i).toInt ∧ (go' i).toInt < 256 * (u.toInt + 1))) T (mkF m 125 #[.val (.ref a), .val (.int u), .val (.int w), .val (.int (0 : Int32)), .val (.int z1), .val (.int z2), .unset] [(.int (1 : Int32))])
      obtain ⟨E_a, F_p, F_vb, F_w, F_b, F_ab, F_al, F_o, F_s, A_w, A_o, lo_a, lo_w, n1, n2, n3⟩ := D8
      refine istore P d6_125 (l' := #[.val (.ref a), .val (.int u), .val (.int w), .val (.int (0 : Int32)), .val (.int z1), .val (.int z2), .val (.int (1 : Int32))]) rfl (n := 127) rfl ?_
      refine iload P d6_127 rfl (n := 129) rfl ?_
      refine retZ P d6_129 (by decide) (by decide) (by decide) ?_
      have D9 : own_D Z n0 h6 a (wa) (oa9) (pr) (vb) (ab9) (al9) (sm9) (wl) (gw9) ((k + 1)) (go9) := ⟨E_a, F_p, F_vb, F_w, F_b, F_ab, F_al, F_o, F_s, A_w, A_o, lo_a, lo_w, n1, n2, n3⟩
      refine ⟨_, rfl, _, _, _, _, _, _, _, D9, by rw [if_pos (by omega)], by omega, hgw9, ?_⟩
      intro i hi
      exact hgo9 i hi
    · -- pc 56 not taken
      replace hc56 : (0 : Int) ≤ ((z3 ||| z4) ||| z5).toInt := hc56
      refine aloadN P d6_59 rfl rfl (n := 60) rfl ?_
      refine dup P d6_60 rfl (n := 61) rfl ?_
      refine getF P d6_61 (hw _ (List.mem_of_getElem? (i := 52) rfl)) F_s (n := 64) rfl ?_
      intro T P
      refine aloadN P d6_64 rfl rfl (n := 65) rfl ?_
      refine iloadN P d6_65 rfl (n := 66) rfl ?_
      refine callP P d6_66 (a := a) (argsL := [(.int w)]) (rest := [(.long sm), (.ref a)]) (c_term l Z a0 hw a w vb h0 n0 P.low F_vb) E_a (hw _ (List.mem_of_getElem? (i := 54) rfl)) (hw _ (List.mem_of_getElem? (i := 55) rfl)) (hw _ (List.mem_of_getElem? (i := 6) rfl)) (hw _ (List.mem_of_getElem? (i := 56) rfl)) (hw _ (List.mem_of_getElem? (i := 7) rfl)) (hw _ (List.mem_of_getElem? (i := 57) rfl)) (by decide) pd_1 rfl rfl rfl ⟨by decide, Nat.le_of_ble_eq_true rfl, by decide, by decide⟩ (n := 69) rfl (RetJ.on ?_)
      intro T r7 P _
      refine aloadN P d6_69 rfl rfl (n := 70) rfl ?_
      refine aloadN P d6_70 rfl rfl (n := 71) rfl ?_
      refine getF P d6_71 (hw _ (List.mem_of_getElem? (i := 50) rfl)) F_b (n := 74) rfl ?_
      intro T P
      refine iloadN P d6_74 rfl (n := 75) rfl ?_
      refine iadd P d6_75 (n := 76) rfl ?_
      rw [show ((0 : Int32) + (0 : Int32)) = (0 : Int32) from by decide]
      refine callP P d6_76 (a := a) (argsL := [(.int (0 : Int32))]) (rest := [(.long r7), (.long sm), (.ref a)]) (c_term l Z a0 hw a (0 : Int32) vb h0 n0 P.low F_vb) E_a (hw _ (List.mem_of_getElem? (i := 54) rfl)) (hw _ (List.mem_of_getElem? (i := 55) rfl)) (hw _ (List.mem_of_getElem? (i := 6) rfl)) (hw _ (List.mem_of_getElem? (i := 56) rfl)) (hw _ (List.mem_of_getElem? (i := 7) rfl)) (hw _ (List.mem_of_getElem? (i := 57) rfl)) (by decide) pd_1 rfl rfl rfl ⟨by decide, Nat.le_of_ble_eq_true rfl, by decide, by decide⟩ (n := 79) rfl (RetJ.on ?_)
      intro T r8 P _
      refine lsub P d6_79 (n := 80) rfl ?_
      refine ladd P d6_80 (n := 81) rfl ?_
      refine putF P d6_81 (hw _ (List.mem_of_getElem? (i := 52) rfl)) F_s E_a (Or.inl (hw _ (List.mem_of_getElem? (i := 53) rfl))) (hw _ (List.mem_of_getElem? (i := 6) rfl)) (ty := .long) (by decide) rfl rfl lo_a (n := 84) rfl ?_
      intro T h9 P W10
      replace E_a := Exa.wr W10 E_a
      replace F_p := Fld.other W10 F_p (Or.inr (slot_ne (Or.inr (hw _ (List.mem_of_getElem? (i := 19) rfl))) (Or.inl (hw _ (List.mem_of_getElem? (i := 53) rfl))) (by decide) (t := .int) (t' := .long) (by decide) (by decide)))
      replace F_vb := Fld.other W10 F_vb (Or.inr (slot_ne (Or.inr (hw _ (List.mem_of_getElem? (i := 21) rfl))) (Or.inl (hw _ (List.mem_of_getElem? (i := 53) rfl))) (by decide) (t := .int) (t' := .long) (by decide) (by decide)))
      replace F_w := Fld.other W10 F_w (Or.inr (slot_ne (Or.inr (hw _ (List.mem_of_getElem? (i := 26) rfl))) (Or.inl (hw _ (List.mem_of_getElem? (i := 53) rfl))) (by decide) (t := (.array .long)) (t' := .long) (by decide) (by decide)))
      replace F_b := Fld.other W10 F_b (Or.inr (slot_ne (Or.inl (hw _ (List.mem_of_getElem? (i := 51) rfl))) (Or.inl (hw _ (List.mem_of_getElem? (i := 53) rfl))) (by decide) (t := .int) (t' := .long) (by decide) (by decide)))
      replace F_ab := Fld.other W10 F_ab (Or.inr (slot_ne (Or.inl (hw _ (List.mem_of_getElem? (i := 37) rfl))) (Or.inl (hw _ (List.mem_of_getElem? (i := 53) rfl))) (by decide) (t := .int) (t' := .long) (by decide) (by decide)))
      replace F_al := Fld.other W10 F_al (Or.inr (slot_ne (Or.inl (hw _ (List.mem_of_getElem? (i := 106) rfl))) (Or.inl (hw _ (List.mem_of_getElem? (i := 53) rfl))) (by decide) (t := .int) (t' := .long) (by decide) (by decide)))
      replace F_o := Fld.other W10 F_o (Or.inr (slot_ne (Or.inl (hw _ (List.mem_of_getElem? (i := 30) rfl))) (Or.inl (hw _ (List.mem_of_getElem? (i := 53) rfl))) (by decide) (t := (.array .int)) (t' := .long) (by decide) (by decide)))
      replace A_w := A_w.other W10 (Ne.symm n1)
      replace A_o := A_o.other W10 (Ne.symm n2)
      replace F_s := Fld.same W10 F_s
      refine aloadN P d6_84 rfl rfl (n := 85) rfl ?_
      refine getF P d6_85 (hw _ (List.mem_of_getElem? (i := 25) rfl)) F_w (n := 88) rfl ?_
      intro T P
      refine iloadN P d6_88 rfl (n := 89) rfl ?_
      refine iconst P d6_89 (x := (4 : Int32)) rfl (n := 90) rfl ?_
      refine iushr P d6_90 (n := 91) rfl ?_
      refine nameI (x := ((u.toUInt32 >>> ((4 : Int32) &&& 31).toUInt32).toInt32)) (F := fun z11 => Jvm.Own.Ends p e below s rm_c_raise n0 (fun v h => ∃ r : Int32, v = some (.int r) ∧ ∃ (oa' : Addr) (k' : Nat) (go' : Nat → Int32) (ab' al' : Int32) (sm' : Int64) (gw' : Nat → Int64), own_D Z n0 h a wa oa' pr vb ab' al' sm' wl gw' k' go' ∧ k' = (if 15 < w.toInt then k + 1 else k) ∧ (ab.toInt - 1 ≤ ab'.toInt ∧ ab'.toInt ≤ ab.toInt) ∧ (u.toInt < 15 → 0 ≤ (gw' 0).toInt ∧ (gw' 0).toInt < ((2 ^ (4 * (u.toInt.toNat + 1)) : Nat) : Int)) ∧ (∀ i, i < k' → 0 ≤ (go' i).toInt ∧ (go' i).toInt < 256 * (u.toInt + 1))) T (mkF m 91 #[.val (.ref a), .val (.int u), .val (.int w), .val (.int (0 : Int32)), .val (.int z1), .val (.int z2), .unset] [(.int z11), (.ref wa)])) ?_
      intro z11 hz11
      have tz11 : z11.toInt = (u.toInt % 4294967296) / 16 := n_iushr 4 hz11 rfl (by decide)
      refine dupD P d6_91 rfl rfl (n := 92) rfl ?_
      refine laloadJ P d6_92 A_w (u := 0) ⟨by omega, by omega⟩ (n := 93) rfl ?_
      refine iload P d6_93 rfl (n := 95) rfl ?_
      refine iloadN P d6_95 rfl (n := 96) rfl ?_
      refine isub P d6_96 (n := 97) rfl ?_
      refine nameI (x := (z1 - (0 : Int32))) (F := fun z12 => Jvm.Own.Ends p e below s rm_c_raise n0 (fun v h => ∃ r : Int32, v = some (.int r) ∧ ∃ (oa' : Addr) (k' : Nat) (go' : Nat → Int32) (ab' al' : Int32) (sm' : Int64) (gw' : Nat → Int64), own_D Z n0 h a wa oa' pr vb ab' al' sm' wl gw' k' go' ∧ k' = (if 15 < w.toInt then k + 1 else k) ∧ (ab.toInt - 1 ≤ ab'.toInt ∧ ab'.toInt ≤ ab.toInt) ∧ (u.toInt < 15 → 0 ≤ (gw' 0).toInt ∧ (gw' 0).toInt < ((2 ^ (4 * (u.toInt.toNat + 1)) : Nat) : Int)) ∧ (∀ i, i < k' → 0 ≤ (go' i).toInt ∧ (go' i).toInt < 256 * (u.toInt + 1))) T (mkF m 97 #[.val (.ref a), .val (.int u), .val (.int w), .val (.int (0 : Int32)), .val (.int z1), .val (.int z2), .unset] [(.int z12), (.long (gw 0)), (.int z11), (.ref wa)])) ?_
      intro z12 hz12
      have tz12 : z12.toInt = z1.toInt - (0 : Int) := n_isub hz12 rfl rfl (by omega)
      refine i2l P d6_97 (n := 98) rfl ?_
      refine iloadN P d6_98 rfl (n := 99) rfl ?_
      refine callS P d6_99 (argsL := [(.int u)]) (rest := [(.long (z12.toInt64)), (.long (gw 0)), (.int z11), (.ref wa)]) (c_shift l Z a0 hw u  h9 n0 P.low ) (hw _ (List.mem_of_getElem? (i := 47) rfl)) (hw _ (List.mem_of_getElem? (i := 48) rfl)) (hw _ (List.mem_of_getElem? (i := 7) rfl)) (hw _ (List.mem_of_getElem? (i := 49) rfl)) (by decide) pd_0 rfl rfl rfl ⟨by decide, Nat.le_of_ble_eq_true rfl, by decide, by decide⟩ (n := 102) rfl (Ret.on ?_)
      intro T P
      refine lshl P d6_102 (n := 103) rfl ?_
      refine ladd P d6_103 (n := 104) rfl ?_
      refine stJ P d6_104 A_w (u := 0) ⟨by omega, by omega⟩ lo_w (n := 105) rfl ?_
      intro T h13 P W14
      replace E_a := Exa.wr W14 E_a
      replace F_p := Fld.other W14 F_p (Or.inl n1)
      replace F_vb := Fld.other W14 F_vb (Or.inl n1)
      replace F_w := Fld.other W14 F_w (Or.inl n1)
      replace F_b := Fld.other W14 F_b (Or.inl n1)
      replace F_ab := Fld.other W14 F_ab (Or.inl n1)
      replace F_al := Fld.other W14 F_al (Or.inl n1)
      replace F_o := Fld.other W14 F_o (Or.inl n1)
      replace F_s := Fld.other W14 F_s (Or.inl n1)
      replace A_o := A_o.other W14 (Ne.symm n3)
      replace A_w := ARJ.set A_w W14
      refine aloadN P d6_105 rfl rfl (n := 106) rfl ?_
      refine iload P d6_106 rfl (n := 108) rfl ?_
      refine putF P d6_108 (hw _ (List.mem_of_getElem? (i := 36) rfl)) F_ab E_a (Or.inl (hw _ (List.mem_of_getElem? (i := 37) rfl))) (hw _ (List.mem_of_getElem? (i := 6) rfl)) (ty := .int) (by decide) rfl rfl lo_a (n := 111) rfl ?_
      intro T h15 P W16
      replace E_a := Exa.wr W16 E_a
      replace F_p := Fld.other W16 F_p (Or.inr (slot_ne (Or.inr (hw _ (List.mem_of_getElem? (i := 19) rfl))) (Or.inl (hw _ (List.mem_of_getElem? (i := 37) rfl))) (by decide) (t := .int) (t' := .int) (by decide) (by decide)))
      replace F_vb := Fld.other W16 F_vb (Or.inr (slot_ne (Or.inr (hw _ (List.mem_of_getElem? (i := 21) rfl))) (Or.inl (hw _ (List.mem_of_getElem? (i := 37) rfl))) (by decide) (t := .int) (t' := .int) (by decide) (by decide)))
      replace F_w := Fld.other W16 F_w (Or.inr (slot_ne (Or.inr (hw _ (List.mem_of_getElem? (i := 26) rfl))) (Or.inl (hw _ (List.mem_of_getElem? (i := 37) rfl))) (by decide) (t := (.array .long)) (t' := .int) (by decide) (by decide)))
      replace F_b := Fld.other W16 F_b (Or.inr (slot_ne (Or.inl (hw _ (List.mem_of_getElem? (i := 51) rfl))) (Or.inl (hw _ (List.mem_of_getElem? (i := 37) rfl))) (by decide) (t := .int) (t' := .int) (by decide) (by decide)))
      replace F_al := Fld.other W16 F_al (Or.inr (slot_ne (Or.inl (hw _ (List.mem_of_getElem? (i := 106) rfl))) (Or.inl (hw _ (List.mem_of_getElem? (i := 37) rfl))) (by decide) (t := .int) (t' := .int) (by decide) (by decide)))
      replace F_o := Fld.other W16 F_o (Or.inr (slot_ne (Or.inl (hw _ (List.mem_of_getElem? (i := 30) rfl))) (Or.inl (hw _ (List.mem_of_getElem? (i := 37) rfl))) (by decide) (t := (.array .int)) (t' := .int) (by decide) (by decide)))
      replace F_s := Fld.other W16 F_s (Or.inr (slot_ne (Or.inl (hw _ (List.mem_of_getElem? (i := 53) rfl))) (Or.inl (hw _ (List.mem_of_getElem? (i := 37) rfl))) (by decide) (t := .long) (t' := .int) (by decide) (by decide)))
      replace A_w := A_w.other W16 (Ne.symm n1)
      replace A_o := A_o.other W16 (Ne.symm n2)
      replace F_ab := Fld.same W16 F_ab
      refine iconst P d6_111 (x := (1 : Int32)) rfl (n := 112) rfl ?_
      refine istore P d6_112 (l' := #[.val (.ref a), .val (.int u), .val (.int w), .val (.int (0 : Int32)), .val (.int z1), .val (.int z2), .val (.int (1 : Int32))]) rfl (n := 114) rfl ?_
      refine goto P d6_114 (n := 127) (by decide) ?_
      refine iload P d6_127 rfl (n := 129) rfl ?_
      refine retZ P d6_129 (by decide) (by decide) (by decide) ?_
      have D9 : own_D Z n0 h15 a (wa) (oa) (pr) (vb) (z2) (al) ((sm + (r7 - r8))) (wl) ((ovr gw 0 (((gw 0) + ((z12.toInt64) <<< (((own_sh u)) &&& 0x3f).toInt64))))) (k) (go) := ⟨E_a, F_p, F_vb, F_w, F_b, F_ab, F_al, F_o, F_s, A_w, A_o, lo_a, lo_w, n1, n2, n3⟩
      refine ⟨_, rfl, _, _, _, _, _, _, _, D9, by rw [if_neg (by omega)], by omega, ?_, ?_⟩
      · intro q
        rw [ovr_at]
        exact own_add (gw 0) z12 u ⟨hu.1, q⟩ (by omega) hg.1 hg.2
      · intro i hi
        have q2 := hb i hi; have q3 := hp i hi; omega
  · -- pc 30 not taken
    replace hc30 : z1.toInt ≤ (0 : Int) := hc30
    refine iconst P d6_33 (x := (0 : Int32)) rfl (n := 34) rfl ?_
    refine istore P d6_34 (l' := #[.val (.ref a), .val (.int u), .val (.int w), .val (.int (0 : Int32)), .val (.int z1), .val (.int z2), .val (.int (0 : Int32))]) rfl (n := 36) rfl ?_
    refine goto P d6_36 (n := 127) (by decide) ?_
    refine iload P d6_127 rfl (n := 129) rfl ?_
    refine retZ P d6_129 (by decide) (by decide) (by decide) ?_
    have D9 : own_D Z n0 h0 a (wa) (oa) (pr) (vb) (ab) (al) (sm) (wl) (gw) (k) (go) := ⟨E_a, F_p, F_vb, F_w, F_b, F_ab, F_al, F_o, F_s, A_w, A_o, lo_a, lo_w, n1, n2, n3⟩
    refine ⟨_, rfl, _, _, _, _, _, _, _, D9, by rw [if_neg (by omega)], by omega, ?_, ?_⟩
    · intro q
      exact ⟨hg.1, Int.lt_of_lt_of_le hg.2 (by exact_mod_cast Nat.pow_le_pow_right (by decide) (by omega))⟩
    · intro i hi
      have q2 := hb i hi; have q3 := hp i hi; omega
theorem d5_0 : decode prog_1_method_8_code 0 = .ok (.aload_n 0, 1) := by decide +kernel
theorem d5_1 : decode prog_1_method_8_code 1 = .ok (.getfield 47, 3) := by decide +kernel
theorem d5_4 : decode prog_1_method_8_code 4 = .ok (.arraylength, 1) := by decide +kernel
theorem d5_5 : decode prog_1_method_8_code 5 = .ok (.iconst 4, 1) := by decide +kernel
theorem d5_6 : decode prog_1_method_8_code 6 = .ok (.ishl, 1) := by decide +kernel
theorem d5_7 : decode prog_1_method_8_code 7 = .ok (.ireturn, 1) := by decide +kernel
theorem ef_5 (m : MethodId) (a : Addr) : entryFrame m #[(.ref a)] 1 = mkF m 0 #[.val (.ref a)] [] := by first | (simp [entryFrame, mkF, argsToLocals, Value.category]; done) | rfl
abbrev rm_c_count : Room := { frames := 0, cells := 0, slots := 0, locals := 0 }
set_option maxRecDepth 65536 in
set_option maxHeartbeats 40000000 in
theorem c_count (l : Launch) (Z : State) (a0 : Array Value) (hw : ∀ d ∈ tables_1, d.before a0 Z = true) (a : Addr) (wb : Addr) (wl : Nat) (gw : Nat → Int64) (h0 : Heap) (n0 : Nat) (low : n0 ≤ h0.size) (F_w : Fld Z h0 a "com/example/thrifty_tally/thriftytally/DenseRegisters" "words" "[J" (.ref wb)) (A_w : ARJ Z h0 wb wl gw) (hwl : 1 ≤ wl ∧ wl ≤ 8) :
    Meth l Z (⟨"com/example/thrifty_tally/thriftytally/DenseRegisters", "count", "()I"⟩ : MethodName) prog_1_method_8_code 1 (some .int) rm_c_count #[(.ref a)] h0 n0 (RetI (fun z => z.toInt = 16 * wl) h0) := by
  refine Meth.of (plainFor_of_name pn_0) low ?_
  intro p e s m args below meth c T P
  refine Ends.cast (ef_5 m a) ?_
  have eL0 : (0 : Int32).toInt = 0 := rfl
  have eL15 : (15 : Int32).toInt = 15 := rfl
  have hkk : (Int32.ofNat wl).toInt = wl := Int32.toInt_ofNat_small (by omega)
  refine aloadN P d5_0 rfl rfl (n := 1) rfl ?_
  refine getF P d5_1 (hw _ (List.mem_of_getElem? (i := 25) rfl)) F_w (n := 4) rfl ?_
  intro T P
  refine alen P d5_4 A_w (x := (Int32.ofNat wl)) hkk (n := 5) rfl ?_
  refine iconst P d5_5 (x := (4 : Int32)) rfl (n := 6) rfl ?_
  refine ishl P d5_6 (n := 7) rfl ?_
  refine retI P d5_7 (by decide) (by decide) ?_
  exact RetI.mk (by have q := own_wl_n ⟨wl, by omega⟩; simp only at q; rw [q]; omega)
theorem d3_0 : decode prog_1_method_3_code 0 = .ok (.aload_n 0, 1) := by decide +kernel
theorem d3_1 : decode prog_1_method_3_code 1 = .ok (.invokespecial 29, 3) := by decide +kernel
theorem d3_4 : decode prog_1_method_3_code 4 = .ok (.aload_n 0, 1) := by decide +kernel
theorem d3_5 : decode prog_1_method_3_code 5 = .ok (.iload_n 1, 1) := by decide +kernel
theorem d3_6 : decode prog_1_method_3_code 6 = .ok (.putfield 33, 3) := by decide +kernel
theorem d3_9 : decode prog_1_method_3_code 9 = .ok (.aload_n 0, 1) := by decide +kernel
theorem d3_10 : decode prog_1_method_3_code 10 = .ok (.bipush 64, 2) := by decide +kernel
theorem d3_12 : decode prog_1_method_3_code 12 = .ok (.iload_n 1, 1) := by decide +kernel
theorem d3_13 : decode prog_1_method_3_code 13 = .ok (.isub, 1) := by decide +kernel
theorem d3_14 : decode prog_1_method_3_code 14 = .ok (.putfield 38, 3) := by decide +kernel
theorem d3_17 : decode prog_1_method_3_code 17 = .ok (.aload_n 0, 1) := by decide +kernel
theorem d3_18 : decode prog_1_method_3_code 18 = .ok (.ldc2_w 41, 3) := by decide +kernel
theorem d3_21 : decode prog_1_method_3_code 21 = .ok (.iload_n 1, 1) := by decide +kernel
theorem d3_22 : decode prog_1_method_3_code 22 = .ok (.lushr, 1) := by decide +kernel
theorem d3_23 : decode prog_1_method_3_code 23 = .ok (.putfield 43, 3) := by decide +kernel
theorem d3_26 : decode prog_1_method_3_code 26 = .ok (.aload_n 0, 1) := by decide +kernel
theorem d3_27 : decode prog_1_method_3_code 27 = .ok (.aload_n 2, 1) := by decide +kernel
theorem d3_28 : decode prog_1_method_3_code 28 = .ok (.putfield 47, 3) := by decide +kernel
theorem d3_31 : decode prog_1_method_3_code 31 = .ok (.return_, 1) := by decide +kernel
theorem ef_3 (m : MethodId) (a : Addr) (u : Int32) (wb : Addr) : entryFrame m #[(.ref a), (.int u), (.ref wb)] 3 = mkF m 0 #[.val (.ref a), .val (.int u), .val (.ref wb)] [] := by first | (simp [entryFrame, mkF, argsToLocals, Value.category]; done) | rfl
abbrev rm_c_new3 : Room := { frames := 1, cells := 0, slots := 0, locals := 12 }
set_option maxRecDepth 65536 in
set_option maxHeartbeats 40000000 in
theorem c_new3 (l : Launch) (Z : State) (a0 : Array Value) (hw : ∀ d ∈ tables_1, d.before a0 Z = true) (a : Addr) (u : Int32) (wb : Addr) (wl : Nat) (gw : Nat → Int64) (h0 : Heap) (n0 : Nat) (low : n0 ≤ h0.size) (E_a : Exa Z h0 a "com/example/thrifty_tally/thriftytally/DenseRegisters") (F_p : Fld Z h0 a "com/example/thrifty_tally/thriftytally/DenseRegisters" "precision" "I" (.int (0 : Int32))) (F_vb : Fld Z h0 a "com/example/thrifty_tally/thriftytally/DenseRegisters" "valueBits" "I" (.int (0 : Int32))) (F_vm : Fld Z h0 a "com/example/thrifty_tally/thriftytally/DenseRegisters" "valueMask" "J" (.long (0 : Int64))) (F_w : Fld Z h0 a "com/example/thrifty_tally/thriftytally/DenseRegisters" "words" "[J" .null) (F_b : Fld Z h0 a "com/example/thrifty_tally/thriftytally/DenseRegisters" "baseline" "I" (.int (0 : Int32))) (F_ab : Fld Z h0 a "com/example/thrifty_tally/thriftytally/DenseRegisters" "atBaseline" "I" (.int (0 : Int32))) (F_al : Fld Z h0 a "com/example/thrifty_tally/thriftytally/DenseRegisters" "atLargest" "I" (.int (0 : Int32))) (F_o : Fld Z h0 a "com/example/thrifty_tally/thriftytally/DenseRegisters" "overflows" "[I" .null) (F_s : Fld Z h0 a "com/example/thrifty_tally/thriftytally/DenseRegisters" "sum" "J" (.long (0 : Int64))) (lo_a : n0 ≤ a) (A_w : ARJ Z h0 wb wl gw) (hwl : 1 ≤ wl ∧ wl ≤ 8) (hu : 4 ≤ u.toInt ∧ u.toInt ≤ 7) (n1 : a ≠ wb) :
    Meth l Z (⟨"com/example/thrifty_tally/thriftytally/DenseRegisters", "<init>", "(I[J)V"⟩ : MethodName) prog_1_method_3_code 3 none rm_c_new3 #[(.ref a), (.int u), (.ref wb)] h0 n0 (fun v h => v = none ∧ ∃ (vb : Int32) (vm : Int64), vb.toInt = 64 - u.toInt ∧ Exa Z h a "com/example/thrifty_tally/thriftytally/DenseRegisters" ∧ Fld Z h a "com/example/thrifty_tally/thriftytally/DenseRegisters" "precision" "I" (.int u) ∧ Fld Z h a "com/example/thrifty_tally/thriftytally/DenseRegisters" "valueBits" "I" (.int vb) ∧ Fld Z h a "com/example/thrifty_tally/thriftytally/DenseRegisters" "valueMask" "J" (.long vm) ∧ Fld Z h a "com/example/thrifty_tally/thriftytally/DenseRegisters" "words" "[J" (.ref wb) ∧ Fld Z h a "com/example/thrifty_tally/thriftytally/DenseRegisters" "baseline" "I" (.int (0 : Int32)) ∧ Fld Z h a "com/example/thrifty_tally/thriftytally/DenseRegisters" "atBaseline" "I" (.int (0 : Int32)) ∧ Fld Z h a "com/example/thrifty_tally/thriftytally/DenseRegisters" "atLargest" "I" (.int (0 : Int32)) ∧ Fld Z h a "com/example/thrifty_tally/thriftytally/DenseRegisters" "overflows" "[I" .null ∧ Fld Z h a "com/example/thrifty_tally/thriftytally/DenseRegisters" "sum" "J" (.long (0 : Int64)) ∧ ARJ Z h wb wl gw ∧ Keep h0 h [a]) := by
  refine Meth.of (plainFor_of_name pn_0) low ?_
  intro p e s m args below meth c T P
  refine Ends.cast (ef_3 m a u wb) ?_
  have K := Keep.refl h0 [a]
  refine aloadN P d3_0 rfl rfl (n := 1) rfl ?_
  refine initO P d3_1 (hw _ (List.mem_of_getElem? (i := 15) rfl)) (hw _ (List.mem_of_getElem? (i := 16) rfl)) (hw _ (List.mem_of_getElem? (i := 17) rfl)) rfl (by decide) (Nat.le_of_ble_eq_true rfl) (n := 4) rfl ?_
  intro T P
  refine aloadN P d3_4 rfl rfl (n := 5) rfl ?_
  refine iloadN P d3_5 rfl (n := 6) rfl ?_
  refine putF P d3_6 (hw _ (List.mem_of_getElem? (i := 18) rfl)) F_p E_a (Or.inr ⟨(hw _ (List.mem_of_getElem? (i := 19) rfl)), rfl, rfl⟩) (hw _ (List.mem_of_getElem? (i := 6) rfl)) (ty := .int) (by decide) rfl rfl lo_a (n := 9) rfl ?_
  intro T h1 P W2
  replace E_a := Exa.wr W2 E_a
  replace F_vb := Fld.other W2 F_vb (Or.inr (slot_ne (Or.inr (hw _ (List.mem_of_getElem? (i := 21) rfl))) (Or.inr (hw _ (List.mem_of_getElem? (i := 19) rfl))) (by decide) (t := .int) (t' := .int) (by decide) (by decide)))
  replace F_vm := Fld.other W2 F_vm (Or.inr (slot_ne (Or.inr (hw _ (List.mem_of_getElem? (i := 24) rfl))) (Or.inr (hw _ (List.mem_of_getElem? (i := 19) rfl))) (by decide) (t := .long) (t' := .int) (by decide) (by decide)))
  replace F_w := Fld.other W2 F_w (Or.inr (slot_ne (Or.inr (hw _ (List.mem_of_getElem? (i := 26) rfl))) (Or.inr (hw _ (List.mem_of_getElem? (i := 19) rfl))) (by decide) (t := (.array .long)) (t' := .int) (by decide) (by decide)))
  replace F_b := Fld.other W2 F_b (Or.inr (slot_ne (Or.inl (hw _ (List.mem_of_getElem? (i := 51) rfl))) (Or.inr (hw _ (List.mem_of_getElem? (i := 19) rfl))) (by decide) (t := .int) (t' := .int) (by decide) (by decide)))
  replace F_ab := Fld.other W2 F_ab (Or.inr (slot_ne (Or.inl (hw _ (List.mem_of_getElem? (i := 37) rfl))) (Or.inr (hw _ (List.mem_of_getElem? (i := 19) rfl))) (by decide) (t := .int) (t' := .int) (by decide) (by decide)))
  replace F_al := Fld.other W2 F_al (Or.inr (slot_ne (Or.inl (hw _ (List.mem_of_getElem? (i := 106) rfl))) (Or.inr (hw _ (List.mem_of_getElem? (i := 19) rfl))) (by decide) (t := .int) (t' := .int) (by decide) (by decide)))
  replace F_o := Fld.other W2 F_o (Or.inr (slot_ne (Or.inl (hw _ (List.mem_of_getElem? (i := 30) rfl))) (Or.inr (hw _ (List.mem_of_getElem? (i := 19) rfl))) (by decide) (t := (.array .int)) (t' := .int) (by decide) (by decide)))
  replace F_s := Fld.other W2 F_s (Or.inr (slot_ne (Or.inl (hw _ (List.mem_of_getElem? (i := 53) rfl))) (Or.inr (hw _ (List.mem_of_getElem? (i := 19) rfl))) (by decide) (t := .long) (t' := .int) (by decide) (by decide)))
  replace A_w := A_w.other W2 (Ne.symm n1)
  replace F_p := Fld.same W2 F_p
  have K := Keep.wr K W2 (Or.inl (by simp))
  refine aloadN P d3_9 rfl rfl (n := 10) rfl ?_
  refine bipush P d3_10 (x := (64 : Int32)) rfl (n := 12) rfl ?_
  refine iloadN P d3_12 rfl (n := 13) rfl ?_
  refine isub P d3_13 (n := 14) rfl ?_
  refine nameI (x := ((64 : Int32) - u)) (F := fun z3 => Jvm.Own.Ends p e below s rm_c_new3 n0 (fun v h => v = none ∧ ∃ (vb : Int32) (vm : Int64), vb.toInt = 64 - u.toInt ∧ Exa Z h a "com/example/thrifty_tally/thriftytally/DenseRegisters" ∧ Fld Z h a "com/example/thrifty_tally/thriftytally/DenseRegisters" "precision" "I" (.int u) ∧ Fld Z h a "com/example/thrifty_tally/thriftytally/DenseRegisters" "valueBits" "I" (.int vb) ∧ Fld Z h a "com/example/thrifty_tally/thriftytally/DenseRegisters" "valueMask" "J" (.long vm) ∧ Fld Z h a "com/example/thrifty_tally/thriftytally/DenseRegisters" "words" "[J" (.ref wb) ∧ Fld Z h a "com/example/thrifty_tally/thriftytally/DenseRegisters" "baseline" "I" (.int (0 : Int32)) ∧ Fld Z h a "com/example/thrifty_tally/thriftytally/DenseRegisters" "atBaseline" "I" (.int (0 : Int32)) ∧ Fld Z h a "com/example/thrifty_tally/thriftytally/DenseRegisters" "atLargest" "I" (.int (0 : Int32)) ∧ Fld Z h a "com/example/thrifty_tally/thriftytally/DenseRegisters" "overflows" "[I" .null ∧ Fld Z h a "com/example/thrifty_tally/thriftytally/DenseRegisters" "sum" "J" (.long (0 : Int64)) ∧ ARJ Z h wb wl gw ∧ Keep h0 h [a]) T (mkF m 14 #[.val (.ref a), .val (.int u), .val (.ref wb)] [(.int z3), (.ref a)])) ?_
  intro z3 hz3
  have tz3 : z3.toInt = (64 : Int) - u.toInt := n_isub hz3 rfl rfl (by omega)
  refine putF P d3_14 (hw _ (List.mem_of_getElem? (i := 20) rfl)) F_vb E_a (Or.inr ⟨(hw _ (List.mem_of_getElem? (i := 21) rfl)), rfl, rfl⟩) (hw _ (List.mem_of_getElem? (i := 6) rfl)) (ty := .int) (by decide) rfl rfl lo_a (n := 17) rfl ?_
  intro T h4 P W5
  replace E_a := Exa.wr W5 E_a
  replace F_p := Fld.other W5 F_p (Or.inr (slot_ne (Or.inr (hw _ (List.mem_of_getElem? (i := 19) rfl))) (Or.inr (hw _ (List.mem_of_getElem? (i := 21) rfl))) (by decide) (t := .int) (t' := .int) (by decide) (by decide)))
  replace F_vm := Fld.other W5 F_vm (Or.inr (slot_ne (Or.inr (hw _ (List.mem_of_getElem? (i := 24) rfl))) (Or.inr (hw _ (List.mem_of_getElem? (i := 21) rfl))) (by decide) (t := .long) (t' := .int) (by decide) (by decide)))
  replace F_w := Fld.other W5 F_w (Or.inr (slot_ne (Or.inr (hw _ (List.mem_of_getElem? (i := 26) rfl))) (Or.inr (hw _ (List.mem_of_getElem? (i := 21) rfl))) (by decide) (t := (.array .long)) (t' := .int) (by decide) (by decide)))
  replace F_b := Fld.other W5 F_b (Or.inr (slot_ne (Or.inl (hw _ (List.mem_of_getElem? (i := 51) rfl))) (Or.inr (hw _ (List.mem_of_getElem? (i := 21) rfl))) (by decide) (t := .int) (t' := .int) (by decide) (by decide)))
  replace F_ab := Fld.other W5 F_ab (Or.inr (slot_ne (Or.inl (hw _ (List.mem_of_getElem? (i := 37) rfl))) (Or.inr (hw _ (List.mem_of_getElem? (i := 21) rfl))) (by decide) (t := .int) (t' := .int) (by decide) (by decide)))
  replace F_al := Fld.other W5 F_al (Or.inr (slot_ne (Or.inl (hw _ (List.mem_of_getElem? (i := 106) rfl))) (Or.inr (hw _ (List.mem_of_getElem? (i := 21) rfl))) (by decide) (t := .int) (t' := .int) (by decide) (by decide)))
  replace F_o := Fld.other W5 F_o (Or.inr (slot_ne (Or.inl (hw _ (List.mem_of_getElem? (i := 30) rfl))) (Or.inr (hw _ (List.mem_of_getElem? (i := 21) rfl))) (by decide) (t := (.array .int)) (t' := .int) (by decide) (by decide)))
  replace F_s := Fld.other W5 F_s (Or.inr (slot_ne (Or.inl (hw _ (List.mem_of_getElem? (i := 53) rfl))) (Or.inr (hw _ (List.mem_of_getElem? (i := 21) rfl))) (by decide) (t := .long) (t' := .int) (by decide) (by decide)))
  replace A_w := A_w.other W5 (Ne.symm n1)
  replace F_vb := Fld.same W5 F_vb
  have K := Keep.wr K W5 (Or.inl (by simp))
  refine aloadN P d3_17 rfl rfl (n := 18) rfl ?_
  refine ldc2J P d3_18 (hw _ (List.mem_of_getElem? (i := 22) rfl)) (n := 21) rfl ?_
  refine iloadN P d3_21 rfl (n := 22) rfl ?_
  refine lushr P d3_22 (n := 23) rfl ?_
  refine putF P d3_23 (hw _ (List.mem_of_getElem? (i := 23) rfl)) F_vm E_a (Or.inr ⟨(hw _ (List.mem_of_getElem? (i := 24) rfl)), rfl, rfl⟩) (hw _ (List.mem_of_getElem? (i := 6) rfl)) (ty := .long) (by decide) rfl rfl lo_a (n := 26) rfl ?_
  intro T h6 P W7
  replace E_a := Exa.wr W7 E_a
  replace F_p := Fld.other W7 F_p (Or.inr (slot_ne (Or.inr (hw _ (List.mem_of_getElem? (i := 19) rfl))) (Or.inr (hw _ (List.mem_of_getElem? (i := 24) rfl))) (by decide) (t := .int) (t' := .long) (by decide) (by decide)))
  replace F_vb := Fld.other W7 F_vb (Or.inr (slot_ne (Or.inr (hw _ (List.mem_of_getElem? (i := 21) rfl))) (Or.inr (hw _ (List.mem_of_getElem? (i := 24) rfl))) (by decide) (t := .int) (t' := .long) (by decide) (by decide)))
  replace F_w := Fld.other W7 F_w (Or.inr (slot_ne (Or.inr (hw _ (List.mem_of_getElem? (i := 26) rfl))) (Or.inr (hw _ (List.mem_of_getElem? (i := 24) rfl))) (by decide) (t := (.array .long)) (t' := .long) (by decide) (by decide)))
  replace F_b := Fld.other W7 F_b (Or.inr (slot_ne (Or.inl (hw _ (List.mem_of_getElem? (i := 51) rfl))) (Or.inr (hw _ (List.mem_of_getElem? (i := 24) rfl))) (by decide) (t := .int) (t' := .long) (by decide) (by decide)))
  replace F_ab := Fld.other W7 F_ab (Or.inr (slot_ne (Or.inl (hw _ (List.mem_of_getElem? (i := 37) rfl))) (Or.inr (hw _ (List.mem_of_getElem? (i := 24) rfl))) (by decide) (t := .int) (t' := .long) (by decide) (by decide)))
  replace F_al := Fld.other W7 F_al (Or.inr (slot_ne (Or.inl (hw _ (List.mem_of_getElem? (i := 106) rfl))) (Or.inr (hw _ (List.mem_of_getElem? (i := 24) rfl))) (by decide) (t := .int) (t' := .long) (by decide) (by decide)))
  replace F_o := Fld.other W7 F_o (Or.inr (slot_ne (Or.inl (hw _ (List.mem_of_getElem? (i := 30) rfl))) (Or.inr (hw _ (List.mem_of_getElem? (i := 24) rfl))) (by decide) (t := (.array .int)) (t' := .long) (by decide) (by decide)))
  replace F_s := Fld.other W7 F_s (Or.inr (slot_ne (Or.inl (hw _ (List.mem_of_getElem? (i := 53) rfl))) (Or.inr (hw _ (List.mem_of_getElem? (i := 24) rfl))) (by decide) (t := .long) (t' := .long) (by decide) (by decide)))
  replace A_w := A_w.other W7 (Ne.symm n1)
  replace F_vm := Fld.same W7 F_vm
  have K := Keep.wr K W7 (Or.inl (by simp))
  refine aloadN P d3_26 rfl rfl (n := 27) rfl ?_
  refine aloadN P d3_27 rfl rfl (n := 28) rfl ?_
  refine putF P d3_28 (hw _ (List.mem_of_getElem? (i := 25) rfl)) F_w E_a (Or.inr ⟨(hw _ (List.mem_of_getElem? (i := 26) rfl)), rfl, rfl⟩) (hw _ (List.mem_of_getElem? (i := 6) rfl)) (ty := (.array .long)) (by decide) rfl rfl lo_a (n := 31) rfl ?_
  intro T h8 P W9
  replace E_a := Exa.wr W9 E_a
  replace F_p := Fld.other W9 F_p (Or.inr (slot_ne (Or.inr (hw _ (List.mem_of_getElem? (i := 19) rfl))) (Or.inr (hw _ (List.mem_of_getElem? (i := 26) rfl))) (by decide) (t := .int) (t' := (.array .long)) (by decide) (by decide)))
  replace F_vb := Fld.other W9 F_vb (Or.inr (slot_ne (Or.inr (hw _ (List.mem_of_getElem? (i := 21) rfl))) (Or.inr (hw _ (List.mem_of_getElem? (i := 26) rfl))) (by decide) (t := .int) (t' := (.array .long)) (by decide) (by decide)))
  replace F_vm := Fld.other W9 F_vm (Or.inr (slot_ne (Or.inr (hw _ (List.mem_of_getElem? (i := 24) rfl))) (Or.inr (hw _ (List.mem_of_getElem? (i := 26) rfl))) (by decide) (t := .long) (t' := (.array .long)) (by decide) (by decide)))
  replace F_b := Fld.other W9 F_b (Or.inr (slot_ne (Or.inl (hw _ (List.mem_of_getElem? (i := 51) rfl))) (Or.inr (hw _ (List.mem_of_getElem? (i := 26) rfl))) (by decide) (t := .int) (t' := (.array .long)) (by decide) (by decide)))
  replace F_ab := Fld.other W9 F_ab (Or.inr (slot_ne (Or.inl (hw _ (List.mem_of_getElem? (i := 37) rfl))) (Or.inr (hw _ (List.mem_of_getElem? (i := 26) rfl))) (by decide) (t := .int) (t' := (.array .long)) (by decide) (by decide)))
  replace F_al := Fld.other W9 F_al (Or.inr (slot_ne (Or.inl (hw _ (List.mem_of_getElem? (i := 106) rfl))) (Or.inr (hw _ (List.mem_of_getElem? (i := 26) rfl))) (by decide) (t := .int) (t' := (.array .long)) (by decide) (by decide)))
  replace F_o := Fld.other W9 F_o (Or.inr (slot_ne (Or.inl (hw _ (List.mem_of_getElem? (i := 30) rfl))) (Or.inr (hw _ (List.mem_of_getElem? (i := 26) rfl))) (by decide) (t := (.array .int)) (t' := (.array .long)) (by decide) (by decide)))
  replace F_s := Fld.other W9 F_s (Or.inr (slot_ne (Or.inl (hw _ (List.mem_of_getElem? (i := 53) rfl))) (Or.inr (hw _ (List.mem_of_getElem? (i := 26) rfl))) (by decide) (t := .long) (t' := (.array .long)) (by decide) (by decide)))
  replace A_w := A_w.other W9 (Ne.symm n1)
  replace F_w := Fld.same W9 F_w
  have K := Keep.wr K W9 (Or.inl (by simp))
  refine retV P d3_31 (by decide) (by decide) ?_
  exact ⟨rfl, z3, _, by omega, E_a, F_p, F_vb, F_vm, F_w, F_b, F_ab, F_al, F_o, F_s, A_w, K⟩
theorem d2_0 : decode prog_1_method_1_code 0 = .ok (.aload_n 0, 1) := by decide +kernel
theorem d2_1 : decode prog_1_method_1_code 1 = .ok (.iload_n 1, 1) := by decide +kernel
theorem d2_2 : decode prog_1_method_1_code 2 = .ok (.iconst 1, 1) := by decide +kernel
theorem d2_3 : decode prog_1_method_1_code 3 = .ok (.iload_n 1, 1) := by decide +kernel
theorem d2_4 : decode prog_1_method_1_code 4 = .ok (.iconst 4, 1) := by decide +kernel
theorem d2_5 : decode prog_1_method_1_code 5 = .ok (.isub, 1) := by decide +kernel
theorem d2_6 : decode prog_1_method_1_code 6 = .ok (.ishl, 1) := by decide +kernel
theorem d2_7 : decode prog_1_method_1_code 7 = .ok (.newarray .long, 2) := by decide +kernel
theorem d2_9 : decode prog_1_method_1_code 9 = .ok (.invokespecial 3, 3) := by decide +kernel
theorem d2_12 : decode prog_1_method_1_code 12 = .ok (.aload_n 0, 1) := by decide +kernel
theorem d2_13 : decode prog_1_method_1_code 13 = .ok (.getstatic 7, 3) := by decide +kernel
theorem d2_16 : decode prog_1_method_1_code 16 = .ok (.putfield 11, 3) := by decide +kernel
theorem d2_19 : decode prog_1_method_1_code 19 = .ok (.aload_n 0, 1) := by decide +kernel
theorem d2_20 : decode prog_1_method_1_code 20 = .ok (.aload_n 0, 1) := by decide +kernel
theorem d2_21 : decode prog_1_method_1_code 21 = .ok (.invokevirtual 14, 3) := by decide +kernel
theorem d2_24 : decode prog_1_method_1_code 24 = .ok (.putfield 18, 3) := by decide +kernel
theorem d2_27 : decode prog_1_method_1_code 27 = .ok (.return_, 1) := by decide +kernel
theorem ef_2 (m : MethodId) (a : Addr) (u : Int32) : entryFrame m #[(.ref a), (.int u)] 2 = mkF m 0 #[.val (.ref a), .val (.int u)] [] := by first | (simp [entryFrame, mkF, argsToLocals, Value.category]; done) | rfl
theorem pd_9 : parseMethodDescriptor "(I[J)V" = some ⟨[.int, (.array .long)], none⟩ := by decide +kernel
theorem pd_10 : parseMethodDescriptor "()I" = some ⟨[], some .int⟩ := by decide +kernel
abbrev rm_c_new : Room := { frames := 2, cells := 1, slots := 8, locals := 26 }
set_option maxRecDepth 65536 in
set_option maxHeartbeats 40000000 in
theorem c_new (l : Launch) (Z : State) (a0 : Array Value) (hw : ∀ d ∈ tables_1, d.before a0 Z = true) (a : Addr) (u : Int32) (na : Addr) (h0 : Heap) (n0 : Nat) (low : n0 ≤ h0.size) (E_a : Exa Z h0 a "com/example/thrifty_tally/thriftytally/DenseRegisters") (F_p : Fld Z h0 a "com/example/thrifty_tally/thriftytally/DenseRegisters" "precision" "I" (.int (0 : Int32))) (F_vb : Fld Z h0 a "com/example/thrifty_tally/thriftytally/DenseRegisters" "valueBits" "I" (.int (0 : Int32))) (F_vm : Fld Z h0 a "com/example/thrifty_tally/thriftytally/DenseRegisters" "valueMask" "J" (.long (0 : Int64))) (F_w : Fld Z h0 a "com/example/thrifty_tally/thriftytally/DenseRegisters" "words" "[J" .null) (F_b : Fld Z h0 a "com/example/thrifty_tally/thriftytally/DenseRegisters" "baseline" "I" (.int (0 : Int32))) (F_ab : Fld Z h0 a "com/example/thrifty_tally/thriftytally/DenseRegisters" "atBaseline" "I" (.int (0 : Int32))) (F_al : Fld Z h0 a "com/example/thrifty_tally/thriftytally/DenseRegisters" "atLargest" "I" (.int (0 : Int32))) (F_o : Fld Z h0 a "com/example/thrifty_tally/thriftytally/DenseRegisters" "overflows" "[I" .null) (F_s : Fld Z h0 a "com/example/thrifty_tally/thriftytally/DenseRegisters" "sum" "J" (.long (0 : Int64))) (lo_a : n0 ≤ a) (hu : 4 ≤ u.toInt ∧ u.toInt ≤ 7) (S_n : Sta Z Z.heap "com/example/thrifty_tally/thriftytally/DenseRegisters" "NO_OVERFLOWS" "[I" (.ref na)) (A_n : ARI Z h0 na .int 0 (fun _ => 0)) (n9 : a ≠ na) (Old9 : Old Z n0 h0) :
    Meth l Z (⟨"com/example/thrifty_tally/thriftytally/DenseRegisters", "<init>", "(I)V"⟩ : MethodName) prog_1_method_1_code 2 none rm_c_new #[(.ref a), (.int u)] h0 n0 (fun v h => v = none ∧ ∃ (wa oa : Addr) (vb ab al : Int32) (sm : Int64) (wl : Nat) (gw : Nat → Int64), own_D Z n0 h a wa oa u vb ab al sm wl gw 0 (fun _ => 0) ∧ vb.toInt = 64 - u.toInt ∧ (16 ≤ ab.toInt ∧ ab.toInt ≤ 128) ∧ 1 ≤ wl ∧ gw 0 = 0) := by
  refine Meth.of (plainFor_of_name pn_0) low ?_
  intro p e s m args below meth c T P
  refine Ends.cast (ef_2 m a u) ?_
  have eL0 : (0 : Int32).toInt = 0 := rfl
  have eL15 : (15 : Int32).toInt = 15 := rfl
  obtain ⟨j9, ej9, tj9⟩ := own_c4 u hu
  obtain ⟨wl, hwl9⟩ : ∃ wl : Nat, wl = 2 ^ j9.val := ⟨_, rfl⟩
  have ewl : ((1 : Int32) <<< ((u - (4 : Int32)) &&& 31)).toInt = wl := by rw [ej9, hwl9]; exact own_len_n j9
  have hwl : 1 ≤ wl ∧ wl ≤ 8 := by
    rw [hwl9]
    have : j9.val = 0 ∨ j9.val = 1 ∨ j9.val = 2 ∨ j9.val = 3 := by omega
    rcases this with q | q | q | q <;> rw [q] <;> decide
  refine aloadN P d2_0 rfl rfl (n := 1) rfl ?_
  refine iloadN P d2_1 rfl (n := 2) rfl ?_
  refine iconst P d2_2 (x := (1 : Int32)) rfl (n := 3) rfl ?_
  refine iloadN P d2_3 rfl (n := 4) rfl ?_
  refine iconst P d2_4 (x := (4 : Int32)) rfl (n := 5) rfl ?_
  refine isub P d2_5 (n := 6) rfl ?_
  refine ishl P d2_6 (n := 7) rfl ?_
  refine newP P d2_7 (hw _ (List.mem_of_getElem? (i := 11) rfl)) (k := wl) (cap := 8) ⟨ewl, hwl.2⟩ (by decide) (by decide) (n := 9) rfl ?_
  intro T h2 b1 P X3 g4 lo_b1 A_b1
  have ne_a_b1 : a ≠ b1 := Nat.ne_of_lt (g4 ▸ E_a.lt)
  have ne_na_b1 : na ≠ b1 := Nat.ne_of_lt (g4 ▸ A_n.lt)
  replace E_a := Exa.ext X3 E_a
  replace F_p := Fld.ext X3 F_p
  replace F_vb := Fld.ext X3 F_vb
  replace F_vm := Fld.ext X3 F_vm
  replace F_w := Fld.ext X3 F_w
  replace F_b := Fld.ext X3 F_b
  replace F_ab := Fld.ext X3 F_ab
  replace F_al := Fld.ext X3 F_al
  replace F_o := Fld.ext X3 F_o
  replace F_s := Fld.ext X3 F_s
  replace A_n := A_n.ext X3
  replace A_b1 : ARJ Z h2 b1 wl (fun _ => 0) := A_b1
  replace Old9 := Old9.ext X3
  refine callN P d2_9 (a := a) (argsL := [(.int u), (.ref b1)]) (rest := []) (c_new3 l Z a0 hw a u b1 wl (fun _ => (0 : Int64)) h2 n0 P.low E_a F_p F_vb F_vm F_w F_b F_ab F_al F_o F_s lo_a A_b1 hwl (by omega) (ne_a_b1)) rfl (hw _ (List.mem_of_getElem? (i := 12) rfl)) (hw _ (List.mem_of_getElem? (i := 13) rfl)) (hw _ (List.mem_of_getElem? (i := 7) rfl)) (hw _ (List.mem_of_getElem? (i := 14) rfl)) (by decide) pd_9 rfl rfl rfl ⟨by decide, Nat.le_of_ble_eq_true rfl, by decide, by decide⟩ (n := 12) rfl ?_
  rintro T h5 v P ⟨rfl, vb, vm, hvb, E_a, F_p, F_vb, F_vm, F_w, F_b, F_ab, F_al, F_o, F_s, A_b1, K9⟩
  replace Old9 := Old.keep Old9 K9 (allS lo_a all0)
  replace A_n := A_n.keep K9 (ninS (Ne.symm n9) nin0)
  show Jvm.Own.Ends p e below s rm_c_new n0 (fun v h => v = none ∧ ∃ (wa oa : Addr) (vb ab al : Int32) (sm : Int64) (wl : Nat) (gw : Nat → Int64), own_D Z n0 h a wa oa u vb ab al sm wl gw 0 (fun _ => 0) ∧ vb.toInt = 64 - u.toInt ∧ (16 ≤ ab.toInt ∧ ab.toInt ≤ 128) ∧ 1 ≤ wl ∧ gw 0 = 0) T (mkF m 12 #[.val (.ref a), .val (.int u)] [])
  refine aloadN P d2_12 rfl rfl (n := 13) rfl ?_
  refine getS P d2_13 (hw _ (List.mem_of_getElem? (i := 27) rfl)) (Sta.ext Old9.2 S_n) (n := 16) rfl ?_
  intro T P
  refine putF P d2_16 (hw _ (List.mem_of_getElem? (i := 29) rfl)) F_o E_a (Or.inl (hw _ (List.mem_of_getElem? (i := 30) rfl))) (hw _ (List.mem_of_getElem? (i := 6) rfl)) (ty := (.array .int)) (by decide) rfl rfl lo_a (n := 19) rfl ?_
  intro T h6 P W7
  replace E_a := Exa.wr W7 E_a
  replace F_p := Fld.other W7 F_p (Or.inr (slot_ne (Or.inr (hw _ (List.mem_of_getElem? (i := 19) rfl))) (Or.inl (hw _ (List.mem_of_getElem? (i := 30) rfl))) (by decide) (t := .int) (t' := (.array .int)) (by decide) (by decide)))
  replace F_vb := Fld.other W7 F_vb (Or.inr (slot_ne (Or.inr (hw _ (List.mem_of_getElem? (i := 21) rfl))) (Or.inl (hw _ (List.mem_of_getElem? (i := 30) rfl))) (by decide) (t := .int) (t' := (.array .int)) (by decide) (by decide)))
  replace F_vm := Fld.other W7 F_vm (Or.inr (slot_ne (Or.inr (hw _ (List.mem_of_getElem? (i := 24) rfl))) (Or.inl (hw _ (List.mem_of_getElem? (i := 30) rfl))) (by decide) (t := .long) (t' := (.array .int)) (by decide) (by decide)))
  replace F_w := Fld.other W7 F_w (Or.inr (slot_ne (Or.inr (hw _ (List.mem_of_getElem? (i := 26) rfl))) (Or.inl (hw _ (List.mem_of_getElem? (i := 30) rfl))) (by decide) (t := (.array .long)) (t' := (.array .int)) (by decide) (by decide)))
  replace F_b := Fld.other W7 F_b (Or.inr (slot_ne (Or.inl (hw _ (List.mem_of_getElem? (i := 51) rfl))) (Or.inl (hw _ (List.mem_of_getElem? (i := 30) rfl))) (by decide) (t := .int) (t' := (.array .int)) (by decide) (by decide)))
  replace F_ab := Fld.other W7 F_ab (Or.inr (slot_ne (Or.inl (hw _ (List.mem_of_getElem? (i := 37) rfl))) (Or.inl (hw _ (List.mem_of_getElem? (i := 30) rfl))) (by decide) (t := .int) (t' := (.array .int)) (by decide) (by decide)))
  replace F_al := Fld.other W7 F_al (Or.inr (slot_ne (Or.inl (hw _ (List.mem_of_getElem? (i := 106) rfl))) (Or.inl (hw _ (List.mem_of_getElem? (i := 30) rfl))) (by decide) (t := .int) (t' := (.array .int)) (by decide) (by decide)))
  replace F_s := Fld.other W7 F_s (Or.inr (slot_ne (Or.inl (hw _ (List.mem_of_getElem? (i := 53) rfl))) (Or.inl (hw _ (List.mem_of_getElem? (i := 30) rfl))) (by decide) (t := .long) (t' := (.array .int)) (by decide) (by decide)))
  replace A_n := A_n.other W7 (Ne.symm n9)
  replace A_b1 := A_b1.other W7 (Ne.symm ne_a_b1)
  replace F_o := Fld.same W7 F_o
  replace Old9 := Old9.wr W7 lo_a
  refine aloadN P d2_19 rfl rfl (n := 20) rfl ?_
  refine aloadN P d2_20 rfl rfl (n := 21) rfl ?_
  refine callV P d2_21 (a := a) (argsL := []) (rest := [(.ref a)]) (c_count l Z a0 hw a b1 wl (fun _ => (0 : Int64)) h6 n0 P.low F_w A_b1 hwl) E_a (hw _ (List.mem_of_getElem? (i := 31) rfl)) (hw _ (List.mem_of_getElem? (i := 32) rfl)) (notFace_of_selects (args := #[]) (mvT P.hZ (hw _ (List.mem_of_getElem? (i := 34) rfl)))) (hw _ (List.mem_of_getElem? (i := 34) rfl)) (hw _ (List.mem_of_getElem? (i := 33) rfl)) (hw _ (List.mem_of_getElem? (i := 7) rfl)) (hw _ (List.mem_of_getElem? (i := 35) rfl)) (by decide) pd_10 rfl rfl rfl ⟨by decide, Nat.le_of_ble_eq_true rfl, by decide, by decide⟩ (n := 24) rfl (RetI.on ?_)
  intro T r8 P hr8
  refine putF P d2_24 (hw _ (List.mem_of_getElem? (i := 36) rfl)) F_ab E_a (Or.inl (hw _ (List.mem_of_getElem? (i := 37) rfl))) (hw _ (List.mem_of_getElem? (i := 6) rfl)) (ty := .int) (by decide) rfl rfl lo_a (n := 27) rfl ?_
  intro T h9 P W10
  replace E_a := Exa.wr W10 E_a
  replace F_p := Fld.other W10 F_p (Or.inr (slot_ne (Or.inr (hw _ (List.mem_of_getElem? (i := 19) rfl))) (Or.inl (hw _ (List.mem_of_getElem? (i := 37) rfl))) (by decide) (t := .int) (t' := .int) (by decide) (by decide)))
  replace F_vb := Fld.other W10 F_vb (Or.inr (slot_ne (Or.inr (hw _ (List.mem_of_getElem? (i := 21) rfl))) (Or.inl (hw _ (List.mem_of_getElem? (i := 37) rfl))) (by decide) (t := .int) (t' := .int) (by decide) (by decide)))
  replace F_vm := Fld.other W10 F_vm (Or.inr (slot_ne (Or.inr (hw _ (List.mem_of_getElem? (i := 24) rfl))) (Or.inl (hw _ (List.mem_of_getElem? (i := 37) rfl))) (by decide) (t := .long) (t' := .int) (by decide) (by decide)))
  replace F_w := Fld.other W10 F_w (Or.inr (slot_ne (Or.inr (hw _ (List.mem_of_getElem? (i := 26) rfl))) (Or.inl (hw _ (List.mem_of_getElem? (i := 37) rfl))) (by decide) (t := (.array .long)) (t' := .int) (by decide) (by decide)))
  replace F_b := Fld.other W10 F_b (Or.inr (slot_ne (Or.inl (hw _ (List.mem_of_getElem? (i := 51) rfl))) (Or.inl (hw _ (List.mem_of_getElem? (i := 37) rfl))) (by decide) (t := .int) (t' := .int) (by decide) (by decide)))
  replace F_al := Fld.other W10 F_al (Or.inr (slot_ne (Or.inl (hw _ (List.mem_of_getElem? (i := 106) rfl))) (Or.inl (hw _ (List.mem_of_getElem? (i := 37) rfl))) (by decide) (t := .int) (t' := .int) (by decide) (by decide)))
  replace F_o := Fld.other W10 F_o (Or.inr (slot_ne (Or.inl (hw _ (List.mem_of_getElem? (i := 30) rfl))) (Or.inl (hw _ (List.mem_of_getElem? (i := 37) rfl))) (by decide) (t := (.array .int)) (t' := .int) (by decide) (by decide)))
  replace F_s := Fld.other W10 F_s (Or.inr (slot_ne (Or.inl (hw _ (List.mem_of_getElem? (i := 53) rfl))) (Or.inl (hw _ (List.mem_of_getElem? (i := 37) rfl))) (by decide) (t := .long) (t' := .int) (by decide) (by decide)))
  replace A_n := A_n.other W10 (Ne.symm n9)
  replace A_b1 := A_b1.other W10 (Ne.symm ne_a_b1)
  replace F_ab := Fld.same W10 F_ab
  replace Old9 := Old9.wr W10 lo_a
  refine retV P d2_27 (by decide) (by decide) ?_
  refine ⟨rfl, b1, na, vb, r8, _, _, _, _, ⟨E_a, F_p, F_vb, F_w, F_b, F_ab, F_al, F_o, F_s, A_b1, A_n, lo_a, lo_b1, ne_a_b1, n9, (Ne.symm ne_na_b1)⟩, hvb, by omega, hwl.1, rfl⟩
theorem d11_0 : decode prog_1_method_21_code 0 = .ok (.aload_n 0, 1) := by decide +kernel
theorem d11_1 : decode prog_1_method_21_code 1 = .ok (.getfield 11, 3) := by decide +kernel
theorem d11_4 : decode prog_1_method_21_code 4 = .ok (.arraylength, 1) := by decide +kernel
theorem d11_5 : decode prog_1_method_21_code 5 = .ok (.iconst 1, 1) := by decide +kernel
theorem d11_6 : decode prog_1_method_21_code 6 = .ok (.aload_n 0, 1) := by decide +kernel
theorem d11_7 : decode prog_1_method_21_code 7 = .ok (.getfield 33, 3) := by decide +kernel
theorem d11_10 : decode prog_1_method_21_code 10 = .ok (.iconst 2, 1) := by decide +kernel
theorem d11_11 : decode prog_1_method_21_code 11 = .ok (.idiv, 1) := by decide +kernel
theorem d11_12 : decode prog_1_method_21_code 12 = .ok (.ishl, 1) := by decide +kernel
theorem d11_13 : decode prog_1_method_21_code 13 = .ok (.if_icmp .le 7, 3) := by decide +kernel
theorem d11_16 : decode prog_1_method_21_code 16 = .ok (.iconst 1, 1) := by decide +kernel
theorem d11_17 : decode prog_1_method_21_code 17 = .ok (.goto 4, 3) := by decide +kernel
theorem d11_20 : decode prog_1_method_21_code 20 = .ok (.iconst 0, 1) := by decide +kernel
theorem d11_21 : decode prog_1_method_21_code 21 = .ok (.ireturn, 1) := by decide +kernel
theorem ef_11 (m : MethodId) (a : Addr) : entryFrame m #[(.ref a)] 1 = mkF m 0 #[.val (.ref a)] [] := by first | (simp [entryFrame, mkF, argsToLocals, Value.category]; done) | rfl
abbrev rm_c_many : Room := { frames := 0, cells := 0, slots := 0, locals := 0 }
set_option maxRecDepth 65536 in
set_option maxHeartbeats 40000000 in
theorem c_many (l : Launch) (Z : State) (a0 : Array Value) (hw : ∀ d ∈ tables_1, d.before a0 Z = true) (a : Addr) (wa oa : Addr) (pr vb ab al : Int32) (sm : Int64) (wl : Nat) (gw : Nat → Int64) (k : Nat) (go : Nat → Int32) (h0 : Heap) (n0 : Nat) (low : n0 ≤ h0.size) (D : own_D Z n0 h0 a wa oa pr vb ab al sm wl gw k go) (hk : k ≤ 100) (hpr : 4 ≤ pr.toInt ∧ pr.toInt ≤ 7) :
    Meth l Z (⟨"com/example/thrifty_tally/thriftytally/DenseRegisters", "holdsManyOverflows", "()Z"⟩ : MethodName) prog_1_method_21_code 1 (some .boolean) rm_c_many #[(.ref a)] h0 n0 (RetI (fun z => (z.toInt = 1 ∧ (if pr.toInt < 6 then (4 : Int) else 8) < k) ∨ (z.toInt = 0 ∧ ¬ (if pr.toInt < 6 then (4 : Int) else 8) < k)) h0) := by
  refine Meth.of (plainFor_of_name pn_0) low ?_
  intro p e s m args below meth c T P
  refine Ends.cast (ef_11 m a) ?_
  have eL0 : (0 : Int32).toInt = 0 := rfl
  have eL15 : (15 : Int32).toInt = 15 := rfl
  obtain ⟨E_a, F_p, F_vb, F_w, F_b, F_ab, F_al, F_o, F_s, A_w, A_o, lo_a, lo_w, n1, n2, n3⟩ := D
  have hkk : (Int32.ofNat k).toInt = k := Int32.toInt_ofNat_small (by omega)
  obtain ⟨j9, ej9, tj9⟩ := own_c4 pr hpr
  refine aloadN P d11_0 rfl rfl (n := 1) rfl ?_
  refine getF P d11_1 (hw _ (List.mem_of_getElem? (i := 29) rfl)) F_o (n := 4) rfl ?_
  intro T P
  refine alen P d11_4 A_o (x := (Int32.ofNat k)) hkk (n := 5) rfl ?_
  refine iconst P d11_5 (x := (1 : Int32)) rfl (n := 6) rfl ?_
  refine aloadN P d11_6 rfl rfl (n := 7) rfl ?_
  refine getF P d11_7 (hw _ (List.mem_of_getElem? (i := 18) rfl)) F_p (n := 10) rfl ?_
  intro T P
  refine iconst P d11_10 (x := (2 : Int32)) rfl (n := 11) rfl ?_
  refine idiv P d11_11 (by decide) (n := 12) rfl ?_
  refine ishl P d11_12 (n := 13) rfl ?_
  have hth : ((1 : Int32) <<< ((pr / (2 : Int32)) &&& 31)).toInt = if pr.toInt < 6 then 4 else 8 := by
    rw [ej9]
    refine (own_thr_n j9).trans ?_
    rw [← ej9, tj9]
    by_cases q : j9.val < 2
    · rw [if_pos q, if_pos (by omega)]
    · rw [if_neg q, if_neg (by omega)]
  refine icmp_le P d11_13 (n' := 20) (n := 16) (by decide) rfl (fun hc13 => ?_) (fun hc13 => ?_)
  · -- pc 13 taken
    refine iconst P d11_20 (x := (0 : Int32)) rfl (n := 21) rfl ?_
    refine retZ P d11_21 (by decide) (by decide) (by decide) ?_
    refine RetI.mk ?_
    first | exact Or.inl ⟨rfl, by omega⟩ | exact Or.inr ⟨rfl, by omega⟩
  · -- pc 13 not taken
    refine iconst P d11_16 (x := (1 : Int32)) rfl (n := 17) rfl ?_
    refine goto P d11_17 (n := 21) (by decide) ?_
    refine retZ P d11_21 (by decide) (by decide) (by decide) ?_
    refine RetI.mk ?_
    first | exact Or.inl ⟨rfl, by omega⟩ | exact Or.inr ⟨rfl, by omega⟩
theorem d1_0 : decode method_3_code 0 = .ok (.iload_n 0, 1) := by decide +kernel
theorem d1_1 : decode method_3_code 1 = .ok (.ldc 30, 2) := by decide +kernel
theorem d1_3 : decode method_3_code 3 = .ok (.iand, 1) := by decide +kernel
theorem d1_4 : decode method_3_code 4 = .ok (.iload_n 1, 1) := by decide +kernel
theorem d1_5 : decode method_3_code 5 = .ok (.irem, 1) := by decide +kernel
theorem d1_6 : decode method_3_code 6 = .ok (.ireturn, 1) := by decide +kernel
theorem ef_1 (m : MethodId) (u : Int32) (w : Int32) : entryFrame m #[(.int u), (.int w)] 2 = mkF m 0 #[.val (.int u), .val (.int w)] [] := by first | (simp [entryFrame, mkF, argsToLocals, Value.category]; done) | rfl
theorem pn_2 : plainName "com/example/thrifty_tally/thriftytally/DenseRegistersHoldsManyOverflowsPinLaw" = true := by first | (simp [plainName, overriddenIn]; done) | decide +kernel
abbrev rm_c_value : Room := { frames := 0, cells := 0, slots := 0, locals := 0 }
set_option maxRecDepth 65536 in
set_option maxHeartbeats 40000000 in
theorem c_value (l : Launch) (Z : State) (a0 : Array Value) (hw : ∀ d ∈ tables_1, d.before a0 Z = true) (u : Int32) (w : Int32)  (h0 : Heap) (n0 : Nat) (low : n0 ≤ h0.size) (h9 : 0 < w.toInt) :
    Meth l Z (⟨"com/example/thrifty_tally/thriftytally/DenseRegistersHoldsManyOverflowsPinLaw", "value", "(II)I"⟩ : MethodName) method_3_code 2 (some .int) rm_c_value #[(.int u), (.int w)] h0 n0 (RetI (fun z => 0 ≤ z.toInt ∧ z.toInt < w.toInt) h0) := by
  refine Meth.of (plainFor_of_name pn_2) low ?_
  intro p e s m args below meth c T P
  refine Ends.cast (ef_1 m u w) ?_
  refine iloadN P d1_0 rfl (n := 1) rfl ?_
  refine ldcI P d1_1 (hw _ (List.mem_of_getElem? (i := 4) rfl)) (n := 3) rfl ?_
  refine iand P d1_3 (n := 4) rfl ?_
  refine nameI (x := (u &&& (2147483647 : Int32))) (F := fun z1 => Jvm.Own.Ends p e below s rm_c_value n0 (RetI (fun z => 0 ≤ z.toInt ∧ z.toInt < w.toInt) h0) T (mkF m 4 #[.val (.int u), .val (.int w)] [(.int z1)])) ?_
  intro z1 hz1
  have tz1 : z1.toInt = u.toInt % 2147483648 := n_mask 31 hz1 rfl (by decide)
  refine iloadN P d1_4 rfl (n := 5) rfl ?_
  refine irem P d1_5 (nzI (by omega)) (n := 6) rfl ?_
  refine nameI (x := (z1 % w)) (F := fun zr => Jvm.Own.Ends p e below s rm_c_value n0 (RetI (fun z => 0 ≤ z.toInt ∧ z.toInt < w.toInt) h0) T (mkF m 6 #[.val (.int u), .val (.int w)] [(.int zr)])) ?_
  intro zr hzr
  have tzr := n_iremV hzr (by omega) h9
  refine retI P d1_6 (by decide) (by decide) ?_
  exact RetI.mk tzr
theorem d10_0 : decode method_4_code 0 = .ok (.iload_n 0, 1) := by decide +kernel
theorem d10_1 : decode method_4_code 1 = .ok (.bipush 15, 2) := by decide +kernel
theorem d10_3 : decode method_4_code 3 = .ok (.if_icmp .le 7, 3) := by decide +kernel
theorem d10_6 : decode method_4_code 6 = .ok (.iconst 1, 1) := by decide +kernel
theorem d10_7 : decode method_4_code 7 = .ok (.goto 4, 3) := by decide +kernel
theorem d10_10 : decode method_4_code 10 = .ok (.iconst 0, 1) := by decide +kernel
theorem d10_11 : decode method_4_code 11 = .ok (.ireturn, 1) := by decide +kernel
theorem ef_10 (m : MethodId) (u : Int32) : entryFrame m #[(.int u)] 1 = mkF m 0 #[.val (.int u)] [] := by first | (simp [entryFrame, mkF, argsToLocals, Value.category]; done) | rfl
abbrev rm_c_over : Room := { frames := 0, cells := 0, slots := 0, locals := 0 }
set_option maxRecDepth 65536 in
set_option maxHeartbeats 40000000 in
theorem c_over (l : Launch) (Z : State) (a0 : Array Value) (hw : ∀ d ∈ tables_1, d.before a0 Z = true) (u : Int32)  (h0 : Heap) (n0 : Nat) (low : n0 ≤ h0.size)  :
    Meth l Z (⟨"com/example/thrifty_tally/thriftytally/DenseRegistersHoldsManyOverflowsPinLaw", "over", "(I)I"⟩ : MethodName) method_4_code 1 (some .int) rm_c_over #[(.int u)] h0 n0 (RetI (fun z => (15 < u.toInt ∧ z.toInt = 1) ∨ (u.toInt ≤ 15 ∧ z.toInt = 0)) h0) := by
  refine Meth.of (plainFor_of_name pn_2) low ?_
  intro p e s m args below meth c T P
  refine Ends.cast (ef_10 m u) ?_
  refine iloadN P d10_0 rfl (n := 1) rfl ?_
  refine bipush P d10_1 (x := (15 : Int32)) rfl (n := 3) rfl ?_
  refine icmp_le P d10_3 (n' := 10) (n := 6) (by decide) rfl (fun hc3 => ?_) (fun hc3 => ?_)
  · -- pc 3 taken
    replace hc3 : u.toInt ≤ (15 : Int) := hc3
    refine iconst P d10_10 (x := (0 : Int32)) rfl (n := 11) rfl ?_
    refine retI P d10_11 (by decide) (by decide) ?_
    refine RetI.mk ?_
    first | exact Or.inl ⟨by omega, rfl⟩ | exact Or.inr ⟨by omega, rfl⟩
  · -- pc 3 not taken
    replace hc3 : (15 : Int) < u.toInt := hc3
    refine iconst P d10_6 (x := (1 : Int32)) rfl (n := 7) rfl ?_
    refine goto P d10_7 (n := 11) (by decide) ?_
    refine retI P d10_11 (by decide) (by decide) ?_
    refine RetI.mk ?_
    first | exact Or.inl ⟨by omega, rfl⟩ | exact Or.inr ⟨by omega, rfl⟩
theorem ef_0 (m : MethodId) (p1 : Int32) (p2 : Int32) (p3 : Int32) (p4 : Int32) (p5 : Int32) (p6 : Int32) : entryFrame m #[(.int p1), (.int p2), (.int p3), (.int p4), (.int p5), (.int p6)] maxLocals = mkF m 0 #[.val (.int p1), .val (.int p2), .val (.int p3), .val (.int p4), .val (.int p5), .val (.int p6), .unset, .unset, .unset, .unset, .unset, .unset, .unset, .unset, .unset, .unset, .unset] [] := by first | (simp [entryFrame, mkF, argsToLocals, Value.category, maxLocals]; done) | rfl
theorem pd_11 : parseMethodDescriptor "(I)V" = some ⟨[.int], none⟩ := by decide +kernel
theorem pd_12 : parseMethodDescriptor "()Z" = some ⟨[], some .boolean⟩ := by decide +kernel
set_option maxRecDepth 65536 in
set_option maxHeartbeats 40000000 in
theorem rm_law (l : Launch) (Z : State) (a0 : Array Value) (hw : ∀ d ∈ tables_1, d.before a0 Z = true) (p1 : Int32) (p2 : Int32) (p3 : Int32) (p4 : Int32) (p5 : Int32) (p6 : Int32) (na : Addr) (h0 : Heap) (n0 : Nat) (low : n0 ≤ h0.size) (S_n : Sta Z Z.heap "com/example/thrifty_tally/thriftytally/DenseRegisters" "NO_OVERFLOWS" "[I" (.ref na)) (A_n : ARI Z h0 na .int 0 (fun _ => 0)) (Old9 : Old Z n0 h0) :
    Meth l Z x code maxLocals ret room_1 #[(.int p1), (.int p2), (.int p3), (.int p4), (.int p5), (.int p6)] h0 n0 (fun v _ => v = some (.int 1)) := by
  refine Meth.of (plainFor_of_name pn_2) low ?_
  intro p e s m args below meth c T P
  refine Ends.cast (ef_0 m p1 p2 p3 p4 p5 p6) ?_
  refine iconst P at_0 (x := (4 : Int32)) rfl (n := 1) rfl ?_
  refine iloadN P at_1 rfl (n := 2) rfl ?_
  refine iconst P at_2 (x := (3 : Int32)) rfl (n := 3) rfl ?_
  refine iand P at_3 (n := 4) rfl ?_
  refine nameI (x := (p1 &&& (3 : Int32))) (F := fun z1 => Jvm.Own.Ends p e below s room_1 n0 (fun v _ => v = some (.int 1)) T (mkF m 4 #[.val (.int p1), .val (.int p2), .val (.int p3), .val (.int p4), .val (.int p5), .val (.int p6), .unset, .unset, .unset, .unset, .unset, .unset, .unset, .unset, .unset, .unset, .unset] [(.int z1), (.int (4 : Int32))])) ?_
  intro z1 hz1
  have tz1 : z1.toInt = p1.toInt % 4 := n_mask 2 hz1 rfl (by decide)
  refine iadd P at_4 (n := 5) rfl ?_
  refine nameI (x := ((4 : Int32) + z1)) (F := fun z2 => Jvm.Own.Ends p e below s room_1 n0 (fun v _ => v = some (.int 1)) T (mkF m 5 #[.val (.int p1), .val (.int p2), .val (.int p3), .val (.int p4), .val (.int p5), .val (.int p6), .unset, .unset, .unset, .unset, .unset, .unset, .unset, .unset, .unset, .unset, .unset] [(.int z2)])) ?_
  intro z2 hz2
  have tz2 : z2.toInt = (4 : Int) + z1.toInt := n_iadd hz2 rfl rfl (by omega)
  refine istore P at_5 (l' := #[.val (.int p1), .val (.int p2), .val (.int p3), .val (.int p4), .val (.int p5), .val (.int p6), .val (.int z2), .unset, .unset, .unset, .unset, .unset, .unset, .unset, .unset, .unset, .unset]) rfl (n := 7) rfl ?_
  refine bipush P at_7 (x := (66 : Int32)) rfl (n := 9) rfl ?_
  refine iload P at_9 rfl (n := 11) rfl ?_
  refine isub P at_11 (n := 12) rfl ?_
  refine nameI (x := ((66 : Int32) - z2)) (F := fun z3 => Jvm.Own.Ends p e below s room_1 n0 (fun v _ => v = some (.int 1)) T (mkF m 12 #[.val (.int p1), .val (.int p2), .val (.int p3), .val (.int p4), .val (.int p5), .val (.int p6), .val (.int z2), .unset, .unset, .unset, .unset, .unset, .unset, .unset, .unset, .unset, .unset] [(.int z3)])) ?_
  intro z3 hz3
  have tz3 : z3.toInt = (66 : Int) - z2.toInt := n_isub hz3 rfl rfl (by omega)
  refine istore P at_12 (l' := #[.val (.int p1), .val (.int p2), .val (.int p3), .val (.int p4), .val (.int p5), .val (.int p6), .val (.int z2), .val (.int z3), .unset, .unset, .unset, .unset, .unset, .unset, .unset, .unset, .unset]) rfl (n := 14) rfl ?_
  refine iloadN P at_14 rfl (n := 15) rfl ?_
  refine iload P at_15 rfl (n := 17) rfl ?_
  refine callS P at_17 (argsL := [(.int p2), (.int z3)]) (rest := []) (c_value l Z a0 hw p2 z3 h0 n0 P.low (by omega)) (hw _ (List.mem_of_getElem? (i := 0) rfl)) (hw _ (List.mem_of_getElem? (i := 1) rfl)) (hw _ (List.mem_of_getElem? (i := 2) rfl)) (hw _ (List.mem_of_getElem? (i := 3) rfl)) (by decide) pd_5 rfl rfl rfl ⟨by decide, Nat.le_of_ble_eq_true rfl, by decide, by decide⟩ (n := 20) rfl (RetI.on ?_)
  intro T r4 P hr4
  refine istore P at_20 (l' := #[.val (.int p1), .val (.int p2), .val (.int p3), .val (.int p4), .val (.int p5), .val (.int p6), .val (.int z2), .val (.int z3), .val (.int r4), .unset, .unset, .unset, .unset, .unset, .unset, .unset, .unset]) rfl (n := 22) rfl ?_
  refine iloadN P at_22 rfl (n := 23) rfl ?_
  refine iload P at_23 rfl (n := 25) rfl ?_
  refine callS P at_25 (argsL := [(.int p3), (.int z3)]) (rest := []) (c_value l Z a0 hw p3 z3 h0 n0 P.low (by omega)) (hw _ (List.mem_of_getElem? (i := 0) rfl)) (hw _ (List.mem_of_getElem? (i := 1) rfl)) (hw _ (List.mem_of_getElem? (i := 2) rfl)) (hw _ (List.mem_of_getElem? (i := 3) rfl)) (by decide) pd_5 rfl rfl rfl ⟨by decide, Nat.le_of_ble_eq_true rfl, by decide, by decide⟩ (n := 28) rfl (RetI.on ?_)
  intro T r5 P hr5
  refine istore P at_28 (l' := #[.val (.int p1), .val (.int p2), .val (.int p3), .val (.int p4), .val (.int p5), .val (.int p6), .val (.int z2), .val (.int z3), .val (.int r4), .val (.int r5), .unset, .unset, .unset, .unset, .unset, .unset, .unset]) rfl (n := 30) rfl ?_
  refine iloadN P at_30 rfl (n := 31) rfl ?_
  refine iload P at_31 rfl (n := 33) rfl ?_
  refine callS P at_33 (argsL := [(.int p4), (.int z3)]) (rest := []) (c_value l Z a0 hw p4 z3 h0 n0 P.low (by omega)) (hw _ (List.mem_of_getElem? (i := 0) rfl)) (hw _ (List.mem_of_getElem? (i := 1) rfl)) (hw _ (List.mem_of_getElem? (i := 2) rfl)) (hw _ (List.mem_of_getElem? (i := 3) rfl)) (by decide) pd_5 rfl rfl rfl ⟨by decide, Nat.le_of_ble_eq_true rfl, by decide, by decide⟩ (n := 36) rfl (RetI.on ?_)
  intro T r6 P hr6
  refine istore P at_36 (l' := #[.val (.int p1), .val (.int p2), .val (.int p3), .val (.int p4), .val (.int p5), .val (.int p6), .val (.int z2), .val (.int z3), .val (.int r4), .val (.int r5), .val (.int r6), .unset, .unset, .unset, .unset, .unset, .unset]) rfl (n := 38) rfl ?_
  refine iload P at_38 rfl (n := 40) rfl ?_
  refine iload P at_40 rfl (n := 42) rfl ?_
  refine callS P at_42 (argsL := [(.int p5), (.int z3)]) (rest := []) (c_value l Z a0 hw p5 z3 h0 n0 P.low (by omega)) (hw _ (List.mem_of_getElem? (i := 0) rfl)) (hw _ (List.mem_of_getElem? (i := 1) rfl)) (hw _ (List.mem_of_getElem? (i := 2) rfl)) (hw _ (List.mem_of_getElem? (i := 3) rfl)) (by decide) pd_5 rfl rfl rfl ⟨by decide, Nat.le_of_ble_eq_true rfl, by decide, by decide⟩ (n := 45) rfl (RetI.on ?_)
  intro T r7 P hr7
  refine istore P at_45 (l' := #[.val (.int p1), .val (.int p2), .val (.int p3), .val (.int p4), .val (.int p5), .val (.int p6), .val (.int z2), .val (.int z3), .val (.int r4), .val (.int r5), .val (.int r6), .val (.int r7), .unset, .unset, .unset, .unset, .unset]) rfl (n := 47) rfl ?_
  refine iload P at_47 rfl (n := 49) rfl ?_
  refine iload P at_49 rfl (n := 51) rfl ?_
  refine callS P at_51 (argsL := [(.int p6), (.int z3)]) (rest := []) (c_value l Z a0 hw p6 z3 h0 n0 P.low (by omega)) (hw _ (List.mem_of_getElem? (i := 0) rfl)) (hw _ (List.mem_of_getElem? (i := 1) rfl)) (hw _ (List.mem_of_getElem? (i := 2) rfl)) (hw _ (List.mem_of_getElem? (i := 3) rfl)) (by decide) pd_5 rfl rfl rfl ⟨by decide, Nat.le_of_ble_eq_true rfl, by decide, by decide⟩ (n := 54) rfl (RetI.on ?_)
  intro T r8 P hr8
  refine istore P at_54 (l' := #[.val (.int p1), .val (.int p2), .val (.int p3), .val (.int p4), .val (.int p5), .val (.int p6), .val (.int z2), .val (.int z3), .val (.int r4), .val (.int r5), .val (.int r6), .val (.int r7), .val (.int r8), .unset, .unset, .unset, .unset]) rfl (n := 56) rfl ?_
  refine newO P at_56 (hw _ (List.mem_of_getElem? (i := 5) rfl)) (hw _ (List.mem_of_getElem? (i := 6) rfl)) (hw _ (List.mem_of_getElem? (i := 7) rfl)) (by decide) (by decide) (n := 59) rfl ?_
  intro T h9 a P X10 g11 lo_a E_a D_a
  have ne_na_a : na ≠ a := Nat.ne_of_lt (g11 ▸ A_n.lt)
  replace A_n := A_n.ext X10
  have F_a_precision := D_a (Or.inr (hw _ (List.mem_of_getElem? (i := 19) rfl))) (ty := .int) (by decide)
  have F_a_valueBits := D_a (Or.inr (hw _ (List.mem_of_getElem? (i := 21) rfl))) (ty := .int) (by decide)
  have F_a_valueMask := D_a (Or.inr (hw _ (List.mem_of_getElem? (i := 24) rfl))) (ty := .long) (by decide)
  have F_a_words := D_a (Or.inr (hw _ (List.mem_of_getElem? (i := 26) rfl))) (ty := (.array .long)) (by decide)
  have F_a_overflows := D_a (Or.inl (hw _ (List.mem_of_getElem? (i := 30) rfl))) (ty := (.array .int)) (by decide)
  have F_a_atBaseline := D_a (Or.inl (hw _ (List.mem_of_getElem? (i := 37) rfl))) (ty := .int) (by decide)
  have F_a_baseline := D_a (Or.inl (hw _ (List.mem_of_getElem? (i := 51) rfl))) (ty := .int) (by decide)
  have F_a_sum := D_a (Or.inl (hw _ (List.mem_of_getElem? (i := 53) rfl))) (ty := .long) (by decide)
  have F_a_atLargest := D_a (Or.inl (hw _ (List.mem_of_getElem? (i := 106) rfl))) (ty := .int) (by decide)
  replace Old9 := Old9.ext X10
  refine dup P at_59 rfl (n := 60) rfl ?_
  refine iload P at_60 rfl (n := 62) rfl ?_
  refine callN P at_62 (a := a) (argsL := [(.int z2)]) (rest := [(.ref a)]) (c_new l Z a0 hw a z2 na h9 n0 P.low E_a F_a_precision F_a_valueBits F_a_valueMask F_a_words F_a_baseline F_a_atBaseline F_a_atLargest F_a_overflows F_a_sum lo_a (by omega) S_n A_n (Ne.symm ne_na_a) Old9) rfl (hw _ (List.mem_of_getElem? (i := 8) rfl)) (hw _ (List.mem_of_getElem? (i := 9) rfl)) (hw _ (List.mem_of_getElem? (i := 7) rfl)) (hw _ (List.mem_of_getElem? (i := 10) rfl)) (by decide) pd_11 rfl rfl rfl ⟨by decide, Nat.le_of_ble_eq_true rfl, by decide, by decide⟩ (n := 65) rfl ?_
  rintro T h12 v P ⟨rfl, wa, oa, vb, ab, al, sm, wl, gw, D8, hvb, hab, hw0, hgw⟩
  show Jvm.Own.Ends p e below s room_1 n0 (fun v _ => v = some (.int 1)) T (mkF m 65 #[.val (.int p1), .val (.int p2), .val (.int p3), .val (.int p4), .val (.int p5), .val (.int p6), .val (.int z2), .val (.int z3), .val (.int r4), .val (.int r5), .val (.int r6), .val (.int r7), .val (.int r8), .unset, .unset, .unset, .unset] [(.ref a)])
  obtain ⟨E_a, F_p, F_vb, F_w, F_b, F_ab, F_al, F_o, F_s, A_w, A_o, lo_a, lo_w, n1, n2, n3⟩ := D8
  refine astore P at_65 rfl (l' := #[.val (.int p1), .val (.int p2), .val (.int p3), .val (.int p4), .val (.int p5), .val (.int p6), .val (.int z2), .val (.int z3), .val (.int r4), .val (.int r5), .val (.int r6), .val (.int r7), .val (.int r8), .val (.ref a), .unset, .unset, .unset]) rfl (n := 67) rfl ?_
  refine aload P at_67 rfl rfl (n := 69) rfl ?_
  refine iconst P at_69 (x := (0 : Int32)) rfl (n := 70) rfl ?_
  refine iload P at_70 rfl (n := 72) rfl ?_
  have D9 : own_D Z n0 h12 a (wa) (oa) (z2) (vb) (ab) (al) (sm) (wl) (gw) (0) ((fun _ => (0 : Int32))) := ⟨E_a, F_p, F_vb, F_w, F_b, F_ab, F_al, F_o, F_s, A_w, A_o, lo_a, lo_w, n1, n2, n3⟩
  refine callV P at_72 (a := a) (argsL := [(.int (0 : Int32)), (.int r4)]) (rest := []) (c_raise l Z a0 hw a (0 : Int32) r4 (wa) (oa) (z2) (vb) (ab) (al) (sm) (wl) (gw) (0) ((fun _ => (0 : Int32))) h12 n0 P.low D9 ⟨by decide, by decide⟩ (by omega) (fun i hi => by omega) (fun i hi => by omega) (by omega) (by rw [hgw]; decide) (by omega) ⟨by omega, by omega⟩ (by omega) (by omega)) E_a (hw _ (List.mem_of_getElem? (i := 38) rfl)) (hw _ (List.mem_of_getElem? (i := 39) rfl)) (notFace_of_selects (args := #[]) (mvT P.hZ (hw _ (List.mem_of_getElem? (i := 41) rfl)))) (hw _ (List.mem_of_getElem? (i := 41) rfl)) (hw _ (List.mem_of_getElem? (i := 40) rfl)) (hw _ (List.mem_of_getElem? (i := 7) rfl)) (hw _ (List.mem_of_getElem? (i := 42) rfl)) (by decide) pd_4 rfl rfl rfl ⟨by decide, Nat.le_of_ble_eq_true rfl, by decide, by decide⟩ (n := 75) rfl ?_
  rintro T h13 v P ⟨rr1, rfl, oa1, k1, go1, ab1, al1, sm1, gw1, D8, hk1, hab1, hgw1, hgo1⟩
  show Jvm.Own.Ends p e below s room_1 n0 (fun v _ => v = some (.int 1)) T (mkF m 75 #[.val (.int p1), .val (.int p2), .val (.int p3), .val (.int p4), .val (.int p5), .val (.int p6), .val (.int z2), .val (.int z3), .val (.int r4), .val (.int r5), .val (.int r6), .val (.int r7), .val (.int r8), .val (.ref a), .unset, .unset, .unset] [(.int rr1)])
  replace hgo1 : ∀ i, i < k1 → 0 ≤ (go1 i).toInt ∧ (go1 i).toInt < 256 := fun i hi => hgo1 i hi
  have hkb1 : k1 ≤ 0 + 1 := by rw [hk1]; split <;> omega
  obtain ⟨E_a, F_p, F_vb, F_w, F_b, F_ab, F_al, F_o, F_s, A_w, A_o, lo_a, lo_w, n1, n2, n3⟩ := D8
  refine popV P at_75 rfl (n := 76) rfl ?_
  refine aload P at_76 rfl rfl (n := 78) rfl ?_
  refine iconst P at_78 (x := (5 : Int32)) rfl (n := 79) rfl ?_
  refine iload P at_79 rfl (n := 81) rfl ?_
  have D9 : own_D Z n0 h13 a (wa) (oa1) (z2) (vb) (ab1) (al1) (sm1) (wl) (gw1) (k1) (go1) := ⟨E_a, F_p, F_vb, F_w, F_b, F_ab, F_al, F_o, F_s, A_w, A_o, lo_a, lo_w, n1, n2, n3⟩
  have hG2 : 0 ≤ (gw1 0).toInt ∧ (gw1 0).toInt < ((2 ^ (4 * (5 : Int32).toInt.toNat) : Nat) : Int) := by
    have q := hgw1 (by decide)
    exact ⟨q.1, Int.lt_of_lt_of_le q.2 (by decide)⟩
  refine callV P at_81 (a := a) (argsL := [(.int (5 : Int32)), (.int r5)]) (rest := []) (c_raise l Z a0 hw a (5 : Int32) r5 (wa) (oa1) (z2) (vb) (ab1) (al1) (sm1) (wl) (gw1) (k1) (go1) h13 n0 P.low D9 ⟨by decide, by decide⟩ (by omega) (fun i hi => by have q := hgo1 i hi; have e : (5 : Int32).toInt = 5 := rfl; omega) (fun i hi => (hgo1 i hi).1) (by omega) hG2 (by omega) ⟨by omega, by omega⟩ (by omega) (by omega)) E_a (hw _ (List.mem_of_getElem? (i := 38) rfl)) (hw _ (List.mem_of_getElem? (i := 39) rfl)) (notFace_of_selects (args := #[]) (mvT P.hZ (hw _ (List.mem_of_getElem? (i := 41) rfl)))) (hw _ (List.mem_of_getElem? (i := 41) rfl)) (hw _ (List.mem_of_getElem? (i := 40) rfl)) (hw _ (List.mem_of_getElem? (i := 7) rfl)) (hw _ (List.mem_of_getElem? (i := 42) rfl)) (by decide) pd_4 rfl rfl rfl ⟨by decide, Nat.le_of_ble_eq_true rfl, by decide, by decide⟩ (n := 84) rfl ?_
  rintro T h14 v P ⟨rr2, rfl, oa2, k2, go2, ab2, al2, sm2, gw2, D8, hk2, hab2, hgw2, hgo2⟩
  show Jvm.Own.Ends p e below s room_1 n0 (fun v _ => v = some (.int 1)) T (mkF m 84 #[.val (.int p1), .val (.int p2), .val (.int p3), .val (.int p4), .val (.int p5), .val (.int p6), .val (.int z2), .val (.int z3), .val (.int r4), .val (.int r5), .val (.int r6), .val (.int r7), .val (.int r8), .val (.ref a), .unset, .unset, .unset] [(.int rr2)])
  replace hgo2 : ∀ i, i < k2 → 0 ≤ (go2 i).toInt ∧ (go2 i).toInt < 1536 := fun i hi => hgo2 i hi
  have hkb2 : k2 ≤ k1 + 1 := by rw [hk2]; split <;> omega
  obtain ⟨E_a, F_p, F_vb, F_w, F_b, F_ab, F_al, F_o, F_s, A_w, A_o, lo_a, lo_w, n1, n2, n3⟩ := D8
  refine popV P at_84 rfl (n := 85) rfl ?_
  refine aload P at_85 rfl rfl (n := 87) rfl ?_
  refine bipush P at_87 (x := (9 : Int32)) rfl (n := 89) rfl ?_
  refine iload P at_89 rfl (n := 91) rfl ?_
  have D9 : own_D Z n0 h14 a (wa) (oa2) (z2) (vb) (ab2) (al2) (sm2) (wl) (gw2) (k2) (go2) := ⟨E_a, F_p, F_vb, F_w, F_b, F_ab, F_al, F_o, F_s, A_w, A_o, lo_a, lo_w, n1, n2, n3⟩
  have hG3 : 0 ≤ (gw2 0).toInt ∧ (gw2 0).toInt < ((2 ^ (4 * (9 : Int32).toInt.toNat) : Nat) : Int) := by
    have q := hgw2 (by decide)
    exact ⟨q.1, Int.lt_of_lt_of_le q.2 (by decide)⟩
  refine callV P at_91 (a := a) (argsL := [(.int (9 : Int32)), (.int r6)]) (rest := []) (c_raise l Z a0 hw a (9 : Int32) r6 (wa) (oa2) (z2) (vb) (ab2) (al2) (sm2) (wl) (gw2) (k2) (go2) h14 n0 P.low D9 ⟨by decide, by decide⟩ (by omega) (fun i hi => by have q := hgo2 i hi; have e : (9 : Int32).toInt = 9 := rfl; omega) (fun i hi => (hgo2 i hi).1) (by omega) hG3 (by omega) ⟨by omega, by omega⟩ (by omega) (by omega)) E_a (hw _ (List.mem_of_getElem? (i := 38) rfl)) (hw _ (List.mem_of_getElem? (i := 39) rfl)) (notFace_of_selects (args := #[]) (mvT P.hZ (hw _ (List.mem_of_getElem? (i := 41) rfl)))) (hw _ (List.mem_of_getElem? (i := 41) rfl)) (hw _ (List.mem_of_getElem? (i := 40) rfl)) (hw _ (List.mem_of_getElem? (i := 7) rfl)) (hw _ (List.mem_of_getElem? (i := 42) rfl)) (by decide) pd_4 rfl rfl rfl ⟨by decide, Nat.le_of_ble_eq_true rfl, by decide, by decide⟩ (n := 94) rfl ?_
  rintro T h15 v P ⟨rr3, rfl, oa3, k3, go3, ab3, al3, sm3, gw3, D8, hk3, hab3, hgw3, hgo3⟩
  show Jvm.Own.Ends p e below s room_1 n0 (fun v _ => v = some (.int 1)) T (mkF m 94 #[.val (.int p1), .val (.int p2), .val (.int p3), .val (.int p4), .val (.int p5), .val (.int p6), .val (.int z2), .val (.int z3), .val (.int r4), .val (.int r5), .val (.int r6), .val (.int r7), .val (.int r8), .val (.ref a), .unset, .unset, .unset] [(.int rr3)])
  replace hgo3 : ∀ i, i < k3 → 0 ≤ (go3 i).toInt ∧ (go3 i).toInt < 2560 := fun i hi => hgo3 i hi
  have hkb3 : k3 ≤ k2 + 1 := by rw [hk3]; split <;> omega
  obtain ⟨E_a, F_p, F_vb, F_w, F_b, F_ab, F_al, F_o, F_s, A_w, A_o, lo_a, lo_w, n1, n2, n3⟩ := D8
  refine popV P at_94 rfl (n := 95) rfl ?_
  refine aload P at_95 rfl rfl (n := 97) rfl ?_
  refine bipush P at_97 (x := (12 : Int32)) rfl (n := 99) rfl ?_
  refine iload P at_99 rfl (n := 101) rfl ?_
  have D9 : own_D Z n0 h15 a (wa) (oa3) (z2) (vb) (ab3) (al3) (sm3) (wl) (gw3) (k3) (go3) := ⟨E_a, F_p, F_vb, F_w, F_b, F_ab, F_al, F_o, F_s, A_w, A_o, lo_a, lo_w, n1, n2, n3⟩
  have hG4 : 0 ≤ (gw3 0).toInt ∧ (gw3 0).toInt < ((2 ^ (4 * (12 : Int32).toInt.toNat) : Nat) : Int) := by
    have q := hgw3 (by decide)
    exact ⟨q.1, Int.lt_of_lt_of_le q.2 (by decide)⟩
  refine callV P at_101 (a := a) (argsL := [(.int (12 : Int32)), (.int r7)]) (rest := []) (c_raise l Z a0 hw a (12 : Int32) r7 (wa) (oa3) (z2) (vb) (ab3) (al3) (sm3) (wl) (gw3) (k3) (go3) h15 n0 P.low D9 ⟨by decide, by decide⟩ (by omega) (fun i hi => by have q := hgo3 i hi; have e : (12 : Int32).toInt = 12 := rfl; omega) (fun i hi => (hgo3 i hi).1) (by omega) hG4 (by omega) ⟨by omega, by omega⟩ (by omega) (by omega)) E_a (hw _ (List.mem_of_getElem? (i := 38) rfl)) (hw _ (List.mem_of_getElem? (i := 39) rfl)) (notFace_of_selects (args := #[]) (mvT P.hZ (hw _ (List.mem_of_getElem? (i := 41) rfl)))) (hw _ (List.mem_of_getElem? (i := 41) rfl)) (hw _ (List.mem_of_getElem? (i := 40) rfl)) (hw _ (List.mem_of_getElem? (i := 7) rfl)) (hw _ (List.mem_of_getElem? (i := 42) rfl)) (by decide) pd_4 rfl rfl rfl ⟨by decide, Nat.le_of_ble_eq_true rfl, by decide, by decide⟩ (n := 104) rfl ?_
  rintro T h16 v P ⟨rr4, rfl, oa4, k4, go4, ab4, al4, sm4, gw4, D8, hk4, hab4, hgw4, hgo4⟩
  show Jvm.Own.Ends p e below s room_1 n0 (fun v _ => v = some (.int 1)) T (mkF m 104 #[.val (.int p1), .val (.int p2), .val (.int p3), .val (.int p4), .val (.int p5), .val (.int p6), .val (.int z2), .val (.int z3), .val (.int r4), .val (.int r5), .val (.int r6), .val (.int r7), .val (.int r8), .val (.ref a), .unset, .unset, .unset] [(.int rr4)])
  replace hgo4 : ∀ i, i < k4 → 0 ≤ (go4 i).toInt ∧ (go4 i).toInt < 3328 := fun i hi => hgo4 i hi
  have hkb4 : k4 ≤ k3 + 1 := by rw [hk4]; split <;> omega
  obtain ⟨E_a, F_p, F_vb, F_w, F_b, F_ab, F_al, F_o, F_s, A_w, A_o, lo_a, lo_w, n1, n2, n3⟩ := D8
  refine popV P at_104 rfl (n := 105) rfl ?_
  refine aload P at_105 rfl rfl (n := 107) rfl ?_
  refine bipush P at_107 (x := (15 : Int32)) rfl (n := 109) rfl ?_
  refine iload P at_109 rfl (n := 111) rfl ?_
  have D9 : own_D Z n0 h16 a (wa) (oa4) (z2) (vb) (ab4) (al4) (sm4) (wl) (gw4) (k4) (go4) := ⟨E_a, F_p, F_vb, F_w, F_b, F_ab, F_al, F_o, F_s, A_w, A_o, lo_a, lo_w, n1, n2, n3⟩
  have hG5 : 0 ≤ (gw4 0).toInt ∧ (gw4 0).toInt < ((2 ^ (4 * (15 : Int32).toInt.toNat) : Nat) : Int) := by
    have q := hgw4 (by decide)
    exact ⟨q.1, Int.lt_of_lt_of_le q.2 (by decide)⟩
  refine callV P at_111 (a := a) (argsL := [(.int (15 : Int32)), (.int r8)]) (rest := []) (c_raise l Z a0 hw a (15 : Int32) r8 (wa) (oa4) (z2) (vb) (ab4) (al4) (sm4) (wl) (gw4) (k4) (go4) h16 n0 P.low D9 ⟨by decide, by decide⟩ (by omega) (fun i hi => by have q := hgo4 i hi; have e : (15 : Int32).toInt = 15 := rfl; omega) (fun i hi => (hgo4 i hi).1) (by omega) hG5 (by omega) ⟨by omega, by omega⟩ (by omega) (by omega)) E_a (hw _ (List.mem_of_getElem? (i := 38) rfl)) (hw _ (List.mem_of_getElem? (i := 39) rfl)) (notFace_of_selects (args := #[]) (mvT P.hZ (hw _ (List.mem_of_getElem? (i := 41) rfl)))) (hw _ (List.mem_of_getElem? (i := 41) rfl)) (hw _ (List.mem_of_getElem? (i := 40) rfl)) (hw _ (List.mem_of_getElem? (i := 7) rfl)) (hw _ (List.mem_of_getElem? (i := 42) rfl)) (by decide) pd_4 rfl rfl rfl ⟨by decide, Nat.le_of_ble_eq_true rfl, by decide, by decide⟩ (n := 114) rfl ?_
  rintro T h17 v P ⟨rr5, rfl, oa5, k5, go5, ab5, al5, sm5, gw5, D8, hk5, hab5, hgw5, hgo5⟩
  show Jvm.Own.Ends p e below s room_1 n0 (fun v _ => v = some (.int 1)) T (mkF m 114 #[.val (.int p1), .val (.int p2), .val (.int p3), .val (.int p4), .val (.int p5), .val (.int p6), .val (.int z2), .val (.int z3), .val (.int r4), .val (.int r5), .val (.int r6), .val (.int r7), .val (.int r8), .val (.ref a), .unset, .unset, .unset] [(.int rr5)])
  replace hgo5 : ∀ i, i < k5 → 0 ≤ (go5 i).toInt ∧ (go5 i).toInt < 4096 := fun i hi => hgo5 i hi
  have hkb5 : k5 ≤ k4 + 1 := by rw [hk5]; split <;> omega
  obtain ⟨E_a, F_p, F_vb, F_w, F_b, F_ab, F_al, F_o, F_s, A_w, A_o, lo_a, lo_w, n1, n2, n3⟩ := D8
  refine popV P at_114 rfl (n := 115) rfl ?_
  refine iload P at_115 rfl (n := 117) rfl ?_
  refine callS P at_117 (argsL := [(.int r4)]) (rest := []) (c_over l Z a0 hw r4 h17 n0 P.low ) (hw _ (List.mem_of_getElem? (i := 58) rfl)) (hw _ (List.mem_of_getElem? (i := 59) rfl)) (hw _ (List.mem_of_getElem? (i := 2) rfl)) (hw _ (List.mem_of_getElem? (i := 60) rfl)) (by decide) pd_0 rfl rfl rfl ⟨by decide, Nat.le_of_ble_eq_true rfl, by decide, by decide⟩ (n := 120) rfl (RetI.on ?_)
  intro T r18 P hr18
  refine iload P at_120 rfl (n := 122) rfl ?_
  refine callS P at_122 (argsL := [(.int r5)]) (rest := [(.int r18)]) (c_over l Z a0 hw r5 h17 n0 P.low ) (hw _ (List.mem_of_getElem? (i := 58) rfl)) (hw _ (List.mem_of_getElem? (i := 59) rfl)) (hw _ (List.mem_of_getElem? (i := 2) rfl)) (hw _ (List.mem_of_getElem? (i := 60) rfl)) (by decide) pd_0 rfl rfl rfl ⟨by decide, Nat.le_of_ble_eq_true rfl, by decide, by decide⟩ (n := 125) rfl (RetI.on ?_)
  intro T r19 P hr19
  refine iadd P at_125 (n := 126) rfl ?_
  refine nameI (x := (r18 + r19)) (F := fun z20 => Jvm.Own.Ends p e below s room_1 n0 (fun v _ => v = some (.int 1)) T (mkF m 126 #[.val (.int p1), .val (.int p2), .val (.int p3), .val (.int p4), .val (.int p5), .val (.int p6), .val (.int z2), .val (.int z3), .val (.int r4), .val (.int r5), .val (.int r6), .val (.int r7), .val (.int r8), .val (.ref a), .unset, .unset, .unset] [(.int z20)])) ?_
  intro z20 hz20
  have tz20 : z20.toInt = r18.toInt + r19.toInt := n_iadd hz20 rfl rfl (by omega)
  refine iload P at_126 rfl (n := 128) rfl ?_
  refine callS P at_128 (argsL := [(.int r6)]) (rest := [(.int z20)]) (c_over l Z a0 hw r6 h17 n0 P.low ) (hw _ (List.mem_of_getElem? (i := 58) rfl)) (hw _ (List.mem_of_getElem? (i := 59) rfl)) (hw _ (List.mem_of_getElem? (i := 2) rfl)) (hw _ (List.mem_of_getElem? (i := 60) rfl)) (by decide) pd_0 rfl rfl rfl ⟨by decide, Nat.le_of_ble_eq_true rfl, by decide, by decide⟩ (n := 131) rfl (RetI.on ?_)
  intro T r21 P hr21
  refine iadd P at_131 (n := 132) rfl ?_
  refine nameI (x := (z20 + r21)) (F := fun z22 => Jvm.Own.Ends p e below s room_1 n0 (fun v _ => v = some (.int 1)) T (mkF m 132 #[.val (.int p1), .val (.int p2), .val (.int p3), .val (.int p4), .val (.int p5), .val (.int p6), .val (.int z2), .val (.int z3), .val (.int r4), .val (.int r5), .val (.int r6), .val (.int r7), .val (.int r8), .val (.ref a), .unset, .unset, .unset] [(.int z22)])) ?_
  intro z22 hz22
  have tz22 : z22.toInt = z20.toInt + r21.toInt := n_iadd hz22 rfl rfl (by omega)
  refine iload P at_132 rfl (n := 134) rfl ?_
  refine callS P at_134 (argsL := [(.int r7)]) (rest := [(.int z22)]) (c_over l Z a0 hw r7 h17 n0 P.low ) (hw _ (List.mem_of_getElem? (i := 58) rfl)) (hw _ (List.mem_of_getElem? (i := 59) rfl)) (hw _ (List.mem_of_getElem? (i := 2) rfl)) (hw _ (List.mem_of_getElem? (i := 60) rfl)) (by decide) pd_0 rfl rfl rfl ⟨by decide, Nat.le_of_ble_eq_true rfl, by decide, by decide⟩ (n := 137) rfl (RetI.on ?_)
  intro T r23 P hr23
  refine iadd P at_137 (n := 138) rfl ?_
  refine nameI (x := (z22 + r23)) (F := fun z24 => Jvm.Own.Ends p e below s room_1 n0 (fun v _ => v = some (.int 1)) T (mkF m 138 #[.val (.int p1), .val (.int p2), .val (.int p3), .val (.int p4), .val (.int p5), .val (.int p6), .val (.int z2), .val (.int z3), .val (.int r4), .val (.int r5), .val (.int r6), .val (.int r7), .val (.int r8), .val (.ref a), .unset, .unset, .unset] [(.int z24)])) ?_
  intro z24 hz24
  have tz24 : z24.toInt = z22.toInt + r23.toInt := n_iadd hz24 rfl rfl (by omega)
  refine iload P at_138 rfl (n := 140) rfl ?_
  refine callS P at_140 (argsL := [(.int r8)]) (rest := [(.int z24)]) (c_over l Z a0 hw r8 h17 n0 P.low ) (hw _ (List.mem_of_getElem? (i := 58) rfl)) (hw _ (List.mem_of_getElem? (i := 59) rfl)) (hw _ (List.mem_of_getElem? (i := 2) rfl)) (hw _ (List.mem_of_getElem? (i := 60) rfl)) (by decide) pd_0 rfl rfl rfl ⟨by decide, Nat.le_of_ble_eq_true rfl, by decide, by decide⟩ (n := 143) rfl (RetI.on ?_)
  intro T r25 P hr25
  refine iadd P at_143 (n := 144) rfl ?_
  refine nameI (x := (z24 + r25)) (F := fun z26 => Jvm.Own.Ends p e below s room_1 n0 (fun v _ => v = some (.int 1)) T (mkF m 144 #[.val (.int p1), .val (.int p2), .val (.int p3), .val (.int p4), .val (.int p5), .val (.int p6), .val (.int z2), .val (.int z3), .val (.int r4), .val (.int r5), .val (.int r6), .val (.int r7), .val (.int r8), .val (.ref a), .unset, .unset, .unset] [(.int z26)])) ?_
  intro z26 hz26
  have tz26 : z26.toInt = z24.toInt + r25.toInt := n_iadd hz26 rfl rfl (by omega)
  refine istore P at_144 (l' := #[.val (.int p1), .val (.int p2), .val (.int p3), .val (.int p4), .val (.int p5), .val (.int p6), .val (.int z2), .val (.int z3), .val (.int r4), .val (.int r5), .val (.int r6), .val (.int r7), .val (.int r8), .val (.ref a), .val (.int z26), .unset, .unset]) rfl (n := 146) rfl ?_
  refine iload P at_146 rfl (n := 148) rfl ?_
  refine bipush P at_148 (x := (6 : Int32)) rfl (n := 150) rfl ?_
  refine icmp_ge P at_150 (n' := 157) (n := 153) (by decide) rfl (fun hc150 => ?_) (fun hc150 => ?_)
  · -- pc 150 taken
    replace hc150 : (6 : Int) ≤ z2.toInt := hc150
    refine bipush P at_157 (x := (8 : Int32)) rfl (n := 159) rfl ?_
    refine istore P at_159 (l' := #[.val (.int p1), .val (.int p2), .val (.int p3), .val (.int p4), .val (.int p5), .val (.int p6), .val (.int z2), .val (.int z3), .val (.int r4), .val (.int r5), .val (.int r6), .val (.int r7), .val (.int r8), .val (.ref a), .val (.int z26), .val (.int (8 : Int32)), .unset]) rfl (n := 161) rfl ?_
    refine iload P at_161 rfl (n := 163) rfl ?_
    refine iload P at_163 rfl (n := 165) rfl ?_
    refine icmp_le P at_165 (n' := 172) (n := 168) (by decide) rfl (fun hc165 => ?_) (fun hc165 => ?_)
    · -- pc 165 taken
      replace hc165 : z26.toInt ≤ (8 : Int) := hc165
      refine iconst P at_172 (x := (0 : Int32)) rfl (n := 173) rfl ?_
      refine istore P at_173 (l' := #[.val (.int p1), .val (.int p2), .val (.int p3), .val (.int p4), .val (.int p5), .val (.int p6), .val (.int z2), .val (.int z3), .val (.int r4), .val (.int r5), .val (.int r6), .val (.int r7), .val (.int r8), .val (.ref a), .val (.int z26), .val (.int (8 : Int32)), .val (.int (0 : Int32))]) rfl (n := 175) rfl ?_
      refine aload P at_175 rfl rfl (n := 177) rfl ?_
      have D9 : own_D Z n0 h17 a (wa) (oa5) (z2) (vb) (ab5) (al5) (sm5) (wl) (gw5) (k5) (go5) := ⟨E_a, F_p, F_vb, F_w, F_b, F_ab, F_al, F_o, F_s, A_w, A_o, lo_a, lo_w, n1, n2, n3⟩
      refine callV P at_177 (a := a) (argsL := []) (rest := []) (c_many l Z a0 hw a (wa) (oa5) (z2) (vb) (ab5) (al5) (sm5) (wl) (gw5) (k5) (go5) h17 n0 P.low D9 (by omega) (by omega)) E_a (hw _ (List.mem_of_getElem? (i := 61) rfl)) (hw _ (List.mem_of_getElem? (i := 62) rfl)) (notFace_of_selects (args := #[]) (mvT P.hZ (hw _ (List.mem_of_getElem? (i := 64) rfl)))) (hw _ (List.mem_of_getElem? (i := 64) rfl)) (hw _ (List.mem_of_getElem? (i := 63) rfl)) (hw _ (List.mem_of_getElem? (i := 7) rfl)) (hw _ (List.mem_of_getElem? (i := 65) rfl)) (by decide) pd_12 rfl rfl rfl ⟨by decide, Nat.le_of_ble_eq_true rfl, by decide, by decide⟩ (n := 180) rfl (RetI.on ?_)
      intro T r27 P hr27
      refine iload P at_180 rfl (n := 182) rfl ?_
      refine icmp_ne P at_182 (n' := 189) (n := 185) (by decide) rfl (fun hc182 => ?_) (fun hc182 => ?_)
      · -- pc 182 taken
        replace hc182 : ¬ r27.toInt = (0 : Int) := hc182
        exfalso
        have hK1 : (k1 : Int) = 0 + r18.toInt := by split at hk1 <;> omega
        have hK2 : (k2 : Int) = k1 + r19.toInt := by split at hk2 <;> omega
        have hK3 : (k3 : Int) = k2 + r21.toInt := by split at hk3 <;> omega
        have hK4 : (k4 : Int) = k3 + r23.toInt := by split at hk4 <;> omega
        have hK5 : (k5 : Int) = k4 + r25.toInt := by split at hk5 <;> omega
        rcases hr27 with ⟨q1, q2⟩ | ⟨q1, q2⟩
        · first
          | (rw [if_pos (by omega)] at q2; omega)
          | (rw [if_neg (by omega)] at q2; omega)
        · first
          | (rw [if_pos (by omega)] at q2; omega)
          | (rw [if_neg (by omega)] at q2; omega)
      · -- pc 182 not taken
        replace hc182 : r27.toInt = (0 : Int) := hc182
        refine iconst P at_185 (x := (1 : Int32)) rfl (n := 186) rfl ?_
        refine goto P at_186 (n := 190) (by decide) ?_
        refine retZ P at_190 (by decide) (by decide) (by decide) ?_
        exact rfl
    · -- pc 165 not taken
      replace hc165 : (8 : Int) < z26.toInt := hc165
      refine iconst P at_168 (x := (1 : Int32)) rfl (n := 169) rfl ?_
      refine goto P at_169 (n := 173) (by decide) ?_
      refine istore P at_173 (l' := #[.val (.int p1), .val (.int p2), .val (.int p3), .val (.int p4), .val (.int p5), .val (.int p6), .val (.int z2), .val (.int z3), .val (.int r4), .val (.int r5), .val (.int r6), .val (.int r7), .val (.int r8), .val (.ref a), .val (.int z26), .val (.int (8 : Int32)), .val (.int (1 : Int32))]) rfl (n := 175) rfl ?_
      refine aload P at_175 rfl rfl (n := 177) rfl ?_
      have D9 : own_D Z n0 h17 a (wa) (oa5) (z2) (vb) (ab5) (al5) (sm5) (wl) (gw5) (k5) (go5) := ⟨E_a, F_p, F_vb, F_w, F_b, F_ab, F_al, F_o, F_s, A_w, A_o, lo_a, lo_w, n1, n2, n3⟩
      refine callV P at_177 (a := a) (argsL := []) (rest := []) (c_many l Z a0 hw a (wa) (oa5) (z2) (vb) (ab5) (al5) (sm5) (wl) (gw5) (k5) (go5) h17 n0 P.low D9 (by omega) (by omega)) E_a (hw _ (List.mem_of_getElem? (i := 61) rfl)) (hw _ (List.mem_of_getElem? (i := 62) rfl)) (notFace_of_selects (args := #[]) (mvT P.hZ (hw _ (List.mem_of_getElem? (i := 64) rfl)))) (hw _ (List.mem_of_getElem? (i := 64) rfl)) (hw _ (List.mem_of_getElem? (i := 63) rfl)) (hw _ (List.mem_of_getElem? (i := 7) rfl)) (hw _ (List.mem_of_getElem? (i := 65) rfl)) (by decide) pd_12 rfl rfl rfl ⟨by decide, Nat.le_of_ble_eq_true rfl, by decide, by decide⟩ (n := 180) rfl (RetI.on ?_)
      intro T r28 P hr28
      refine iload P at_180 rfl (n := 182) rfl ?_
      refine icmp_ne P at_182 (n' := 189) (n := 185) (by decide) rfl (fun hc182 => ?_) (fun hc182 => ?_)
      · -- pc 182 taken
        replace hc182 : ¬ r28.toInt = (1 : Int) := hc182
        exfalso
        have hK1 : (k1 : Int) = 0 + r18.toInt := by split at hk1 <;> omega
        have hK2 : (k2 : Int) = k1 + r19.toInt := by split at hk2 <;> omega
        have hK3 : (k3 : Int) = k2 + r21.toInt := by split at hk3 <;> omega
        have hK4 : (k4 : Int) = k3 + r23.toInt := by split at hk4 <;> omega
        have hK5 : (k5 : Int) = k4 + r25.toInt := by split at hk5 <;> omega
        rcases hr28 with ⟨q1, q2⟩ | ⟨q1, q2⟩
        · first
          | (rw [if_pos (by omega)] at q2; omega)
          | (rw [if_neg (by omega)] at q2; omega)
        · first
          | (rw [if_pos (by omega)] at q2; omega)
          | (rw [if_neg (by omega)] at q2; omega)
      · -- pc 182 not taken
        replace hc182 : r28.toInt = (1 : Int) := hc182
        refine iconst P at_185 (x := (1 : Int32)) rfl (n := 186) rfl ?_
        refine goto P at_186 (n := 190) (by decide) ?_
        refine retZ P at_190 (by decide) (by decide) (by decide) ?_
        exact rfl
  · -- pc 150 not taken
    replace hc150 : z2.toInt < (6 : Int) := hc150
    refine iconst P at_153 (x := (4 : Int32)) rfl (n := 154) rfl ?_
    refine goto P at_154 (n := 159) (by decide) ?_
    refine istore P at_159 (l' := #[.val (.int p1), .val (.int p2), .val (.int p3), .val (.int p4), .val (.int p5), .val (.int p6), .val (.int z2), .val (.int z3), .val (.int r4), .val (.int r5), .val (.int r6), .val (.int r7), .val (.int r8), .val (.ref a), .val (.int z26), .val (.int (4 : Int32)), .unset]) rfl (n := 161) rfl ?_
    refine iload P at_161 rfl (n := 163) rfl ?_
    refine iload P at_163 rfl (n := 165) rfl ?_
    refine icmp_le P at_165 (n' := 172) (n := 168) (by decide) rfl (fun hc165 => ?_) (fun hc165 => ?_)
    · -- pc 165 taken
      replace hc165 : z26.toInt ≤ (4 : Int) := hc165
      refine iconst P at_172 (x := (0 : Int32)) rfl (n := 173) rfl ?_
      refine istore P at_173 (l' := #[.val (.int p1), .val (.int p2), .val (.int p3), .val (.int p4), .val (.int p5), .val (.int p6), .val (.int z2), .val (.int z3), .val (.int r4), .val (.int r5), .val (.int r6), .val (.int r7), .val (.int r8), .val (.ref a), .val (.int z26), .val (.int (4 : Int32)), .val (.int (0 : Int32))]) rfl (n := 175) rfl ?_
      refine aload P at_175 rfl rfl (n := 177) rfl ?_
      have D9 : own_D Z n0 h17 a (wa) (oa5) (z2) (vb) (ab5) (al5) (sm5) (wl) (gw5) (k5) (go5) := ⟨E_a, F_p, F_vb, F_w, F_b, F_ab, F_al, F_o, F_s, A_w, A_o, lo_a, lo_w, n1, n2, n3⟩
      refine callV P at_177 (a := a) (argsL := []) (rest := []) (c_many l Z a0 hw a (wa) (oa5) (z2) (vb) (ab5) (al5) (sm5) (wl) (gw5) (k5) (go5) h17 n0 P.low D9 (by omega) (by omega)) E_a (hw _ (List.mem_of_getElem? (i := 61) rfl)) (hw _ (List.mem_of_getElem? (i := 62) rfl)) (notFace_of_selects (args := #[]) (mvT P.hZ (hw _ (List.mem_of_getElem? (i := 64) rfl)))) (hw _ (List.mem_of_getElem? (i := 64) rfl)) (hw _ (List.mem_of_getElem? (i := 63) rfl)) (hw _ (List.mem_of_getElem? (i := 7) rfl)) (hw _ (List.mem_of_getElem? (i := 65) rfl)) (by decide) pd_12 rfl rfl rfl ⟨by decide, Nat.le_of_ble_eq_true rfl, by decide, by decide⟩ (n := 180) rfl (RetI.on ?_)
      intro T r29 P hr29
      refine iload P at_180 rfl (n := 182) rfl ?_
      refine icmp_ne P at_182 (n' := 189) (n := 185) (by decide) rfl (fun hc182 => ?_) (fun hc182 => ?_)
      · -- pc 182 taken
        replace hc182 : ¬ r29.toInt = (0 : Int) := hc182
        exfalso
        have hK1 : (k1 : Int) = 0 + r18.toInt := by split at hk1 <;> omega
        have hK2 : (k2 : Int) = k1 + r19.toInt := by split at hk2 <;> omega
        have hK3 : (k3 : Int) = k2 + r21.toInt := by split at hk3 <;> omega
        have hK4 : (k4 : Int) = k3 + r23.toInt := by split at hk4 <;> omega
        have hK5 : (k5 : Int) = k4 + r25.toInt := by split at hk5 <;> omega
        rcases hr29 with ⟨q1, q2⟩ | ⟨q1, q2⟩
        · first
          | (rw [if_pos (by omega)] at q2; omega)
          | (rw [if_neg (by omega)] at q2; omega)
        · first
          | (rw [if_pos (by omega)] at q2; omega)
          | (rw [if_neg (by omega)] at q2; omega)
      · -- pc 182 not taken
        replace hc182 : r29.toInt = (0 : Int) := hc182
        refine iconst P at_185 (x := (1 : Int32)) rfl (n := 186) rfl ?_
        refine goto P at_186 (n := 190) (by decide) ?_
        refine retZ P at_190 (by decide) (by decide) (by decide) ?_
        exact rfl
    · -- pc 165 not taken
      replace hc165 : (4 : Int) < z26.toInt := hc165
      refine iconst P at_168 (x := (1 : Int32)) rfl (n := 169) rfl ?_
      refine goto P at_169 (n := 173) (by decide) ?_
      refine istore P at_173 (l' := #[.val (.int p1), .val (.int p2), .val (.int p3), .val (.int p4), .val (.int p5), .val (.int p6), .val (.int z2), .val (.int z3), .val (.int r4), .val (.int r5), .val (.int r6), .val (.int r7), .val (.int r8), .val (.ref a), .val (.int z26), .val (.int (4 : Int32)), .val (.int (1 : Int32))]) rfl (n := 175) rfl ?_
      refine aload P at_175 rfl rfl (n := 177) rfl ?_
      have D9 : own_D Z n0 h17 a (wa) (oa5) (z2) (vb) (ab5) (al5) (sm5) (wl) (gw5) (k5) (go5) := ⟨E_a, F_p, F_vb, F_w, F_b, F_ab, F_al, F_o, F_s, A_w, A_o, lo_a, lo_w, n1, n2, n3⟩
      refine callV P at_177 (a := a) (argsL := []) (rest := []) (c_many l Z a0 hw a (wa) (oa5) (z2) (vb) (ab5) (al5) (sm5) (wl) (gw5) (k5) (go5) h17 n0 P.low D9 (by omega) (by omega)) E_a (hw _ (List.mem_of_getElem? (i := 61) rfl)) (hw _ (List.mem_of_getElem? (i := 62) rfl)) (notFace_of_selects (args := #[]) (mvT P.hZ (hw _ (List.mem_of_getElem? (i := 64) rfl)))) (hw _ (List.mem_of_getElem? (i := 64) rfl)) (hw _ (List.mem_of_getElem? (i := 63) rfl)) (hw _ (List.mem_of_getElem? (i := 7) rfl)) (hw _ (List.mem_of_getElem? (i := 65) rfl)) (by decide) pd_12 rfl rfl rfl ⟨by decide, Nat.le_of_ble_eq_true rfl, by decide, by decide⟩ (n := 180) rfl (RetI.on ?_)
      intro T r30 P hr30
      refine iload P at_180 rfl (n := 182) rfl ?_
      refine icmp_ne P at_182 (n' := 189) (n := 185) (by decide) rfl (fun hc182 => ?_) (fun hc182 => ?_)
      · -- pc 182 taken
        replace hc182 : ¬ r30.toInt = (1 : Int) := hc182
        exfalso
        have hK1 : (k1 : Int) = 0 + r18.toInt := by split at hk1 <;> omega
        have hK2 : (k2 : Int) = k1 + r19.toInt := by split at hk2 <;> omega
        have hK3 : (k3 : Int) = k2 + r21.toInt := by split at hk3 <;> omega
        have hK4 : (k4 : Int) = k3 + r23.toInt := by split at hk4 <;> omega
        have hK5 : (k5 : Int) = k4 + r25.toInt := by split at hk5 <;> omega
        rcases hr30 with ⟨q1, q2⟩ | ⟨q1, q2⟩
        · first
          | (rw [if_pos (by omega)] at q2; omega)
          | (rw [if_neg (by omega)] at q2; omega)
        · first
          | (rw [if_pos (by omega)] at q2; omega)
          | (rw [if_neg (by omega)] at q2; omega)
      · -- pc 182 not taken
        replace hc182 : r30.toInt = (1 : Int) := hc182
        refine iconst P at_185 (x := (1 : Int32)) rfl (n := 186) rfl ?_
        refine goto P at_186 (n := 190) (by decide) ?_
        refine retZ P at_190 (by decide) (by decide) (by decide) ?_
        exact rfl
set_option maxRecDepth 65536 in
set_option maxHeartbeats 40000000 in
theorem comes_1 {Post : Tables → Env → Array Value → State → Outcome → State → Prop} (hpost : ∀ tb e args s v u, (limb_1_1.after args s (.returned v) u = true ∧ limb_1_2.after args s (.returned v) u = true ∧ True) → FrameEnd s (.returned v) u (Jvm.fieldLocs frame_1_writes args s ++ Jvm.arrayLocs frame_1_arrays args s ++ Jvm.staticLocs frame_1_statics s) 24 128 → Post tb e args s (.returned v) u) :
    ArmFor flags0 classFile x code maxLocals ret World_1 tables_1 room_1 Calls_1 rest_1 Pre_1 Post := by
  intro l hfl _ _ p e ha hc hk s m args below hf hA hF happ hP
  obtain ⟨hcalls, hrest, hpre⟩ := hP
  obtain ⟨-, -, -, hnamed, -, -, -, hat⟩ := (Spec.applies_iff hf).mp happ
  obtain ⟨hg, hn⟩ := and_e (Cond.before_iff.mp (show (Jvm.Cond.and given_1 narrow_1).before args s = true from hpre))
  obtain ⟨q0, g0⟩ := and_e hg
  obtain ⟨w0, w1, w2, w3, w4, w5, rfl⟩ : ∃ w0 w1 w2 w3 w4 w5 : Value, args = #[w0, w1, w2, w3, w4, w5] := by
    have hs : args.size = 6 := by simpa [Cond.value, given_1] using q0
    obtain ⟨L⟩ := args
    match L, hs with
    | [w0, w1, w2, w3, w4, w5], _ => exact ⟨w0, w1, w2, w3, w4, w5, rfl⟩
  have hw := fun d (hd : d ∈ tables_1) => atoms_spec (ws := Jvm.Cond.code x code maxLocals ret :: tables_1) hat d (List.mem_cons_of_mem _ hd)
  obtain ⟨q1, g1⟩ := and_e g0
  obtain ⟨i0, e0⟩ := is_v q1
  obtain rfl : w0 = (.int i0) := Option.some.inj e0
  obtain ⟨q2, g2⟩ := and_e g1
  obtain ⟨i1, e1⟩ := is_v q2
  obtain rfl : w1 = (.int i1) := Option.some.inj e1
  obtain ⟨q3, g3⟩ := and_e g2
  obtain ⟨i2, e2⟩ := is_v q3
  obtain rfl : w2 = (.int i2) := Option.some.inj e2
  obtain ⟨q4, g4⟩ := and_e g3
  obtain ⟨i3, e3⟩ := is_v q4
  obtain rfl : w3 = (.int i3) := Option.some.inj e3
  obtain ⟨q5, g5⟩ := and_e g4
  obtain ⟨i4, e4⟩ := is_v q5
  obtain rfl : w4 = (.int i4) := Option.some.inj e4
  have q6 := g5
  obtain ⟨i5, e5⟩ := is_v q6
  obtain rfl : w5 = (.int i5) := Option.some.inj e5
  obtain ⟨m1, hn⟩ := and_e hn
  obtain ⟨-, m2⟩ := and_e hn
  obtain ⟨na, v1⟩ := arr_v m1
  have S_n := Sta.start v1 (Or.inr ⟨(hw _ (List.mem_of_getElem? (i := 7) rfl)), (hw _ (List.mem_of_getElem? (i := 28) rfl))⟩)
  have A_n : ARI s s.heap na .int 0 (fun _ => 0) := AR.start v1 m1 m2 rfl (fun i hi => absurd hi (Nat.not_lt_zero i))
  obtain ⟨n, o, h1, h2, h3, _, L, rfl, ⟨rfl, N⟩, hq⟩ := rm_law l s _ hw i0 i1 i2 i3 i4 i5 na s.heap s.heap.size (Nat.le_refl _) S_n A_n (Old.start s) tables_1 p e ha hc hk s m _ below hf ((Spec.applies_iff_loose hf).mp happ).1 ⟨rfl, State.Warmed39.refl s, rfl⟩ trivial
  refine ⟨n, _, h1, h2, h3, hpost _ _ _ _ _ _ ⟨Cond.after_iff.mpr rfl, Cond.after_iff.mpr (eq_i res_at (Term.int_eval (1)) rfl), trivial⟩ ⟨hq.1, hq.2.1, (hq.2.2.sift fun y hy => Or.inr (N y hy)).mono (by decide) (by decide)⟩⟩
theorem main_1_1 : Claimed_1_1 := comes_1 fun _ _ _ _ _ _ h hF => ⟨h.1, hF⟩
theorem main_1_2 : Claimed_1_2 := comes_1 fun _ _ _ _ _ _ h hF => ⟨h.2.1, hF⟩
end Jvm.Pilot.@@N@@
namespace Jvm.Pilot.@@N@@
open Jvm Jvm.ClassFile Sem Op Lib Jvm.Free Jvm.Stand Jvm.Pilot.@@N@@.Jvm.D
/-! MADE BY PROGRAM (witnessworld.py) out of the Statement's table words and the real class files: 14 classes; the members and pool entries that the words name. The judged class is class 1, her method 1. -/
namespace start1
open Jvm.ClassFile
def u (s : String) : CpInfo := .utf8 (stringToUtf16 s)
/-- a pool by its gaps: so many unusable entries, then the entry; so many at the end -/
def gap : Nat → List CpInfo → List CpInfo
  | 0, r => r
  | n + 1, r => .unusable :: gap n r
def poolList (es : List (Nat × CpInfo)) (last : Nat) : List CpInfo := es.foldr (fun e r => gap e.1 (e.2 :: r)) (gap last [])
def pool (es : List (Nat × CpInfo)) (last : Nat) : Array CpInfo := ⟨poolList es last⟩
def fileOf (pool : Array CpInfo) (this : Nat) (attrs : Array Attribute := #[]) (ms : Array MethodInfo := #[]) (fl : Nat := 33) (sup : Nat := 0) (ifs : Array Nat := #[]) (fds : Array FieldInfo := #[]) : ClassFile where
  minorVersion := 0
  majorVersion := 65
  constantPool := pool
  accessFlags := fl
  thisClass := this
  superClass := sup
  interfaces := ifs
  fields := fds
  methods := ms
  attributes := attrs
def plain (name : String) (sup : Option ClassId) : Class where
  name := name
  kind := .ordinary
  loader := none
  accessFlags := 33
  super := sup
  interfaces := #[]
  cf := none
  fields := #[]
  methods := #[]
  instanceTypes := #[]
  staticTypes := #[]
  resolved := #[]
  callSites := []
  init := .initialized
  statics := none
  mirror := none

def pool0 : Array CpInfo := pool [(5, u "<init>"), (0, u "()V"), (1, .class_ 10), (1, u "java/lang/Object")] 113

def k0c0 : Code := { maxStack := 0, maxLocals := 1, code := object_method_1_code, exceptionTable := #[], attributes := #[] }
def k0m0 : Method := { name := "<init>", desc := "()V", sig := { parameters := [], returnType := none }, accessFlags := 1, code := some k0c0 }
/-- java/lang/Object -/
def k0 : Class := { plain "java/lang/Object" none with
  accessFlags := 33
  interfaces := #[]
  cf := some (fileOf pool0 8 #[] #[{ accessFlags := 1, nameIndex := 5, descriptorIndex := 6, attributes := #[] }] 33 0 #[] #[])
  fields := #[]
  methods := #[k0m0]
  instanceTypes := #[]
  staticTypes := #[]
  resolved := Array.replicate 124 none
  statics := none }

def pool1 : Array CpInfo := pool [(2, .class_ 4), (1, u "java/lang/Object"), (0, u "<init>"), (0, u "()V"), (0, .methodref 8 9), (0, .class_ 10), (0, .nameAndType 11 12), (0, u "com/example/thrifty_tally/thriftytally/DenseRegistersHoldsManyOverflowsPinLaw"), (0, u "value"), (0, u "(II)I"), (0, .class_ 14), (0, u "com/example/thrifty_tally/thriftytally/DenseRegisters"), (0, .methodref 13 16), (0, .nameAndType 5 17), (0, u "(I)V"), (0, .methodref 13 19), (0, .nameAndType 20 21), (0, u "raise"), (0, u "(II)Z"), (0, .methodref 8 23), (0, .nameAndType 24 25), (0, u "over"), (0, u "(I)I"), (0, .methodref 13 27), (0, .nameAndType 28 29), (0, u "holdsManyOverflows"), (0, u "()Z"), (0, .integer 2147483647), (2, u "law"), (0, u "(IIIIII)Z")] 3

def k1m0 : Method := { name := "<init>", desc := "()V", sig := { parameters := [], returnType := none }, accessFlags := 1, code := none }
def k1c1 : Code := { maxStack := 3, maxLocals := 17, code := code, exceptionTable := #[], attributes := #[] }
def k1m1 : Method := { name := "law", desc := "(IIIIII)Z", sig := { parameters := [.int, .int, .int, .int, .int, .int], returnType := some .boolean }, accessFlags := 9, code := some k1c1 }
def k1c2 : Code := { maxStack := 2, maxLocals := 2, code := method_3_code, exceptionTable := #[], attributes := #[] }
def k1m2 : Method := { name := "value", desc := "(II)I", sig := { parameters := [.int, .int], returnType := some .int }, accessFlags := 10, code := some k1c2 }
def k1c3 : Code := { maxStack := 2, maxLocals := 1, code := method_4_code, exceptionTable := #[], attributes := #[] }
def k1m3 : Method := { name := "over", desc := "(I)I", sig := { parameters := [.int], returnType := some .int }, accessFlags := 10, code := some k1c3 }
/-- com/example/thrifty_tally/thriftytally/DenseRegistersHoldsManyOverflowsPinLaw -/
def k1 : Class := { plain "com/example/thrifty_tally/thriftytally/DenseRegistersHoldsManyOverflowsPinLaw" (some 0) with
  accessFlags := 49
  interfaces := #[]
  cf := some (fileOf pool1 8 #[] #[{ accessFlags := 1, nameIndex := 5, descriptorIndex := 6, attributes := #[] }, { accessFlags := 9, nameIndex := 33, descriptorIndex := 34, attributes := #[] }, { accessFlags := 10, nameIndex := 11, descriptorIndex := 12, attributes := #[] }, { accessFlags := 10, nameIndex := 24, descriptorIndex := 25, attributes := #[] }] 49 2 #[] #[])
  fields := #[]
  methods := #[k1m0, k1m1, k1m2, k1m3]
  instanceTypes := #[]
  staticTypes := #[]
  resolved := Array.replicate 38 none
  statics := none }

def pool2 : Array CpInfo := pool [(1, .class_ 2), (0, u "com/example/thrifty_tally/thriftytally/DenseRegisters"), (0, .methodref 1 4), (0, .nameAndType 5 6), (0, u "<init>"), (0, u "(I[J)V"), (0, .fieldref 1 8), (0, .nameAndType 9 10), (0, u "NO_OVERFLOWS"), (0, u "[I"), (0, .fieldref 1 12), (0, .nameAndType 13 10), (0, u "overflows"), (0, .methodref 1 15), (0, .nameAndType 16 17), (0, u "count"), (0, u "()I"), (0, .fieldref 1 19), (0, .nameAndType 20 21), (0, u "atBaseline"), (0, u "I"), (0, .fieldref 1 23), (0, .nameAndType 24 21), (0, u "baseline"), (3, u "()V"), (0, .methodref 30 31), (0, .class_ 32), (0, .nameAndType 5 28), (0, u "java/lang/Object"), (0, .fieldref 1 34), (0, .nameAndType 35 21), (0, u "precision"), (2, .fieldref 1 39), (0, .nameAndType 40 21), (0, u "valueBits"), (0, .long 18446744073709551615), (1, .fieldref 1 44), (0, .nameAndType 45 46), (0, u "valueMask"), (0, u "J"), (0, .fieldref 1 48), (0, .nameAndType 49 50), (0, u "words"), (0, u "[J"), (2, u "LITTLE_ENDIAN_LONG"), (0, u "Ljava/lang/invoke/VarHandle;"), (11, .class_ 68), (1, u "java/util/Arrays"), (9, .methodref 1 79), (0, .nameAndType 80 81), (0, u "delta"), (0, u "(I)I"), (8, u "raise"), (0, u "(II)Z"), (0, .fieldref 1 93), (0, .nameAndType 94 46), (0, u "sum"), (0, .methodref 1 96), (0, .nameAndType 97 98), (0, u "termBelowLargest"), (0, u "(I)J"), (0, .methodref 1 100), (0, .nameAndType 101 81), (0, u "deltaShift"), (0, .methodref 1 103), (0, .nameAndType 104 105), (0, u "raiseFrom"), (0, u "(III)Z"), (9, .fieldref 1 116), (0, .nameAndType 117 21), (0, u "atLargest"), (17, .class_ 137), (1, u "java/lang/Math"), (17, .class_ 156), (0, u "com/example/thrifty_tally/thriftytally/DenseRegisters$Batch"), (17, .methodref 135 175), (0, .nameAndType 176 177), (0, u "min"), (0, u "(II)I"), (0, .methodref 1 179), (0, .nameAndType 180 177), (0, u "overflow"), (7, .methodref 1 189), (0, .nameAndType 190 191), (0, u "noteRaise"), (0, u "(II)V"), (0, .methodref 1 193), (0, .nameAndType 194 191), (0, u "setOverflow"), (10, .methodref 66 206), (0, .nameAndType 207 208), (0, u "binarySearch"), (0, u "([II)I"), (0, .methodref 1 210), (0, .nameAndType 211 81), (0, u "overflowPosition"), (0, .methodref 1 213), (0, .nameAndType 214 91), (0, u "isOverflowOf"), (0, .methodref 216 217), (0, .class_ 218), (0, .nameAndType 219 220), (0, u "java/lang/System"), (0, u "arraycopy"), (0, u "(Ljava/lang/Object;ILjava/lang/Object;II)V"), (22, u "MAX_DELTA"), (2, u "AMOUNT_BITS"), (1, u "AMOUNT_MASK"), (1, u "WORD_SHIFT"), (1, u "WORDS_A_STEP"), (1, u "LOW_BITS"), (0, u "LOW_HALVES"), (0, u "(I)V"), (15, u "holdsManyOverflows"), (0, u "()Z")] 18

def k2c0 : Code := { maxStack := 5, maxLocals := 2, code := prog_1_method_1_code, exceptionTable := #[], attributes := #[] }
def k2m0 : Method := { name := "<init>", desc := "(I)V", sig := { parameters := [.int], returnType := none }, accessFlags := 0, code := some k2c0 }
def k2c1 : Code := { maxStack := 4, maxLocals := 3, code := prog_1_method_3_code, exceptionTable := #[], attributes := #[] }
def k2m1 : Method := { name := "<init>", desc := "(I[J)V", sig := { parameters := [.int, (.array .long)], returnType := none }, accessFlags := 2, code := some k2c1 }
def k2c2 : Code := { maxStack := 2, maxLocals := 2, code := prog_1_method_6_code, exceptionTable := #[], attributes := #[] }
def k2m2 : Method := { name := "overflow", desc := "(II)I", sig := { parameters := [.int, .int], returnType := some .int }, accessFlags := 8, code := some k2c2 }
def k2c3 : Code := { maxStack := 2, maxLocals := 1, code := prog_1_method_8_code, exceptionTable := #[], attributes := #[] }
def k2m3 : Method := { name := "count", desc := "()I", sig := { parameters := [], returnType := some .int }, accessFlags := 0, code := some k2c3 }
def k2c4 : Code := { maxStack := 8, maxLocals := 7, code := prog_1_method_14_code, exceptionTable := #[], attributes := #[] }
def k2m4 : Method := { name := "raise", desc := "(II)Z", sig := { parameters := [.int, .int], returnType := some .boolean }, accessFlags := 0, code := some k2c4 }
def k2c5 : Code := { maxStack := 4, maxLocals := 1, code := prog_1_method_21_code, exceptionTable := #[], attributes := #[] }
def k2m5 : Method := { name := "holdsManyOverflows", desc := "()Z", sig := { parameters := [], returnType := some .boolean }, accessFlags := 0, code := some k2c5 }
def k2c6 : Code := { maxStack := 7, maxLocals := 6, code := prog_1_method_32_code, exceptionTable := #[], attributes := #[] }
def k2m6 : Method := { name := "raiseFrom", desc := "(III)Z", sig := { parameters := [.int, .int, .int], returnType := some .boolean }, accessFlags := 2, code := some k2c6 }
def k2c7 : Code := { maxStack := 5, maxLocals := 3, code := prog_1_method_33_code, exceptionTable := #[], attributes := #[] }
def k2m7 : Method := { name := "noteRaise", desc := "(II)V", sig := { parameters := [.int, .int], returnType := none }, accessFlags := 2, code := some k2c7 }
def k2c8 : Code := { maxStack := 4, maxLocals := 2, code := prog_1_method_34_code, exceptionTable := #[], attributes := #[] }
def k2m8 : Method := { name := "termBelowLargest", desc := "(I)J", sig := { parameters := [.int], returnType := some .long }, accessFlags := 2, code := some k2c8 }
def k2c9 : Code := { maxStack := 3, maxLocals := 2, code := prog_1_method_35_code, exceptionTable := #[], attributes := #[] }
def k2m9 : Method := { name := "delta", desc := "(I)I", sig := { parameters := [.int], returnType := some .int }, accessFlags := 2, code := some k2c9 }
def k2c10 : Code := { maxStack := 2, maxLocals := 1, code := prog_1_method_36_code, exceptionTable := #[], attributes := #[] }
def k2m10 : Method := { name := "deltaShift", desc := "(I)I", sig := { parameters := [.int], returnType := some .int }, accessFlags := 10, code := some k2c10 }
def k2c11 : Code := { maxStack := 3, maxLocals := 2, code := prog_1_method_39_code, exceptionTable := #[], attributes := #[] }
def k2m11 : Method := { name := "overflowPosition", desc := "(I)I", sig := { parameters := [.int], returnType := some .int }, accessFlags := 2, code := some k2c11 }
def k2c12 : Code := { maxStack := 2, maxLocals := 3, code := prog_1_method_40_code, exceptionTable := #[], attributes := #[] }
def k2m12 : Method := { name := "isOverflowOf", desc := "(II)Z", sig := { parameters := [.int, .int], returnType := some .boolean }, accessFlags := 2, code := some k2c12 }
def k2c13 : Code := { maxStack := 6, maxLocals := 5, code := prog_1_method_42_code, exceptionTable := #[], attributes := #[] }
def k2m13 : Method := { name := "setOverflow", desc := "(II)V", sig := { parameters := [.int, .int], returnType := none }, accessFlags := 2, code := some k2c13 }
/-- com/example/thrifty_tally/thriftytally/DenseRegisters -/
def k2 : Class := { plain "com/example/thrifty_tally/thriftytally/DenseRegisters" (some 0) with
  accessFlags := 32
  interfaces := #[]
  cf := some (fileOf pool2 1 #[.nestMembers #[155]] #[{ accessFlags := 0, nameIndex := 5, descriptorIndex := 256, attributes := #[] }, { accessFlags := 2, nameIndex := 5, descriptorIndex := 6, attributes := #[] }, { accessFlags := 8, nameIndex := 180, descriptorIndex := 177, attributes := #[] }, { accessFlags := 0, nameIndex := 16, descriptorIndex := 17, attributes := #[] }, { accessFlags := 0, nameIndex := 90, descriptorIndex := 91, attributes := #[] }, { accessFlags := 0, nameIndex := 272, descriptorIndex := 273, attributes := #[] }, { accessFlags := 2, nameIndex := 104, descriptorIndex := 105, attributes := #[] }, { accessFlags := 2, nameIndex := 190, descriptorIndex := 191, attributes := #[] }, { accessFlags := 2, nameIndex := 97, descriptorIndex := 98, attributes := #[] }, { accessFlags := 2, nameIndex := 80, descriptorIndex := 81, attributes := #[] }, { accessFlags := 10, nameIndex := 101, descriptorIndex := 81, attributes := #[] }, { accessFlags := 2, nameIndex := 211, descriptorIndex := 81, attributes := #[] }, { accessFlags := 2, nameIndex := 214, descriptorIndex := 91, attributes := #[] }, { accessFlags := 2, nameIndex := 194, descriptorIndex := 191, attributes := #[] }] 32 30 #[] #[{ accessFlags := 24, nameIndex := 243, descriptorIndex := 21, attributes := #[] }, { accessFlags := 26, nameIndex := 246, descriptorIndex := 21, attributes := #[] }, { accessFlags := 26, nameIndex := 248, descriptorIndex := 21, attributes := #[] }, { accessFlags := 26, nameIndex := 9, descriptorIndex := 10, attributes := #[] }, { accessFlags := 26, nameIndex := 250, descriptorIndex := 21, attributes := #[] }, { accessFlags := 26, nameIndex := 252, descriptorIndex := 21, attributes := #[] }, { accessFlags := 26, nameIndex := 254, descriptorIndex := 46, attributes := #[] }, { accessFlags := 26, nameIndex := 255, descriptorIndex := 46, attributes := #[] }, { accessFlags := 26, nameIndex := 53, descriptorIndex := 54, attributes := #[] }, { accessFlags := 18, nameIndex := 35, descriptorIndex := 21, attributes := #[] }, { accessFlags := 18, nameIndex := 40, descriptorIndex := 21, attributes := #[] }, { accessFlags := 18, nameIndex := 45, descriptorIndex := 46, attributes := #[] }, { accessFlags := 18, nameIndex := 49, descriptorIndex := 50, attributes := #[] }, { accessFlags := 2, nameIndex := 24, descriptorIndex := 21, attributes := #[] }, { accessFlags := 2, nameIndex := 20, descriptorIndex := 21, attributes := #[] }, { accessFlags := 2, nameIndex := 117, descriptorIndex := 21, attributes := #[] }, { accessFlags := 2, nameIndex := 13, descriptorIndex := 10, attributes := #[] }, { accessFlags := 2, nameIndex := 94, descriptorIndex := 46, attributes := #[] }])
  fields := #[{ name := "MAX_DELTA", type := .int, accessFlags := 24, slot := 0, constantValue := 0 }, { name := "AMOUNT_BITS", type := .int, accessFlags := 26, slot := 1, constantValue := 0 }, { name := "AMOUNT_MASK", type := .int, accessFlags := 26, slot := 2, constantValue := 0 }, { name := "NO_OVERFLOWS", type := (.array .int), accessFlags := 26, slot := 3, constantValue := 0 }, { name := "WORD_SHIFT", type := .int, accessFlags := 26, slot := 4, constantValue := 0 }, { name := "WORDS_A_STEP", type := .int, accessFlags := 26, slot := 5, constantValue := 0 }, { name := "LOW_BITS", type := .long, accessFlags := 26, slot := 6, constantValue := 0 }, { name := "LOW_HALVES", type := .long, accessFlags := 26, slot := 7, constantValue := 0 }, { name := "LITTLE_ENDIAN_LONG", type := (.object "java/lang/invoke/VarHandle"), accessFlags := 26, slot := 8, constantValue := 0 }, { name := "precision", type := .int, accessFlags := 18, slot := 0, constantValue := 0 }, { name := "valueBits", type := .int, accessFlags := 18, slot := 1, constantValue := 0 }, { name := "valueMask", type := .long, accessFlags := 18, slot := 2, constantValue := 0 }, { name := "words", type := (.array .long), accessFlags := 18, slot := 3, constantValue := 0 }, { name := "baseline", type := .int, accessFlags := 2, slot := 4, constantValue := 0 }, { name := "atBaseline", type := .int, accessFlags := 2, slot := 5, constantValue := 0 }, { name := "atLargest", type := .int, accessFlags := 2, slot := 6, constantValue := 0 }, { name := "overflows", type := (.array .int), accessFlags := 2, slot := 7, constantValue := 0 }, { name := "sum", type := .long, accessFlags := 2, slot := 8, constantValue := 0 }]
  methods := #[k2m0, k2m1, k2m2, k2m3, k2m4, k2m5, k2m6, k2m7, k2m8, k2m9, k2m10, k2m11, k2m12, k2m13]
  instanceTypes := #[.int, .int, .long, (.array .long), .int, .int, .int, (.array .int), .long]
  staticTypes := #[.int, .int, .int, (.array .int), .int, .int, .long, .long, (.object "java/lang/invoke/VarHandle")]
  resolved := Array.replicate 292 none
  statics := some 0 }

def pool3 : Array CpInfo := pool [(1, .class_ 2), (0, u "java/lang/Math"), (1, .class_ 6), (1, u "java/lang/Object"), (0, u "<init>"), (0, u "()V"), (89, .class_ 100), (1, u "java/lang/Math$RandomNumberGeneratorHolder"), (71, u "negativeZeroFloatBits"), (0, u "J"), (2, u "negativeZeroDoubleBits"), (24, u "min"), (43, u "$assertionsDisabled"), (0, u "Z"), (88, u "(II)I"), (2, u "twoToTheDoubleScaleDown"), (0, u "D"), (4, u "twoToTheDoubleScaleUp"), (9, u "E"), (3, u "PI"), (2, u "TAU"), (2, u "DEGREES_TO_RADIANS"), (0, u "RADIANS_TO_DEGREES")] 94

def k3m0 : Method := { name := "<init>", desc := "()V", sig := { parameters := [], returnType := none }, accessFlags := 2, code := none }
def k3c1 : Code := { maxStack := 2, maxLocals := 2, code := jdk_29_method_69_code, exceptionTable := #[], attributes := #[] }
def k3m1 : Method := { name := "min", desc := "(II)I", sig := { parameters := [.int, .int], returnType := some .int }, accessFlags := 9, code := some k3c1 }
/-- java/lang/Math -/
def k3 : Class := { plain "java/lang/Math" (some 0) with
  accessFlags := 49
  interfaces := #[]
  cf := some (fileOf pool3 1 #[.nestMembers #[98]] #[{ accessFlags := 2, nameIndex := 7, descriptorIndex := 8, attributes := #[] }, { accessFlags := 9, nameIndex := 201, descriptorIndex := 335, attributes := #[] }] 49 4 #[] #[{ accessFlags := 25, nameIndex := 354, descriptorIndex := 339, attributes := #[] }, { accessFlags := 25, nameIndex := 358, descriptorIndex := 339, attributes := #[] }, { accessFlags := 25, nameIndex := 361, descriptorIndex := 339, attributes := #[] }, { accessFlags := 26, nameIndex := 364, descriptorIndex := 339, attributes := #[] }, { accessFlags := 26, nameIndex := 365, descriptorIndex := 339, attributes := #[] }, { accessFlags := 26, nameIndex := 172, descriptorIndex := 173, attributes := #[] }, { accessFlags := 26, nameIndex := 176, descriptorIndex := 173, attributes := #[] }, { accessFlags := 8, nameIndex := 344, descriptorIndex := 339, attributes := #[] }, { accessFlags := 8, nameIndex := 338, descriptorIndex := 339, attributes := #[] }, { accessFlags := 4120, nameIndex := 245, descriptorIndex := 246, attributes := #[] }])
  fields := #[{ name := "E", type := .double, accessFlags := 25, slot := 0, constantValue := 0 }, { name := "PI", type := .double, accessFlags := 25, slot := 1, constantValue := 0 }, { name := "TAU", type := .double, accessFlags := 25, slot := 2, constantValue := 0 }, { name := "DEGREES_TO_RADIANS", type := .double, accessFlags := 26, slot := 3, constantValue := 0 }, { name := "RADIANS_TO_DEGREES", type := .double, accessFlags := 26, slot := 4, constantValue := 0 }, { name := "negativeZeroFloatBits", type := .long, accessFlags := 26, slot := 5, constantValue := 0 }, { name := "negativeZeroDoubleBits", type := .long, accessFlags := 26, slot := 6, constantValue := 0 }, { name := "twoToTheDoubleScaleUp", type := .double, accessFlags := 8, slot := 7, constantValue := 0 }, { name := "twoToTheDoubleScaleDown", type := .double, accessFlags := 8, slot := 8, constantValue := 0 }, { name := "$assertionsDisabled", type := .boolean, accessFlags := 4120, slot := 9, constantValue := 0 }]
  methods := #[k3m0, k3m1]
  instanceTypes := #[]
  staticTypes := #[.double, .double, .double, .double, .double, .long, .long, .double, .double, .boolean]
  resolved := Array.replicate 460 none
  statics := none }

def pool4 : Array CpInfo := pool [(2, .class_ 4), (1, u "java/lang/Object"), (0, u "<init>"), (0, u "()V"), (7, .class_ 16), (1, u "java/util/Arrays"), (57, .class_ 76), (1, u "java/util/Arrays$NaturalOrder"), (36, .class_ 115), (1, u "java/util/Arrays$LegacyMergeSort"), (1, u "Z"), (89, u "binarySearch0"), (1, .methodref 14 210), (0, .nameAndType 207 211), (0, u "([IIII)I"), (163, .class_ 376), (0, u "java/util/Arrays$ArrayList"), (68, u "$assertionsDisabled"), (269, u "MIN_ARRAY_SORT_GRAN"), (0, u "I"), (2, u "INSERTIONSORT_THRESHOLD"), (74, u "binarySearch"), (4, u "([II)I"), (175, .class_ 976), (0, u "java/util/Arrays$ArrayItr")] 52

def k4m0 : Method := { name := "<init>", desc := "()V", sig := { parameters := [], returnType := none }, accessFlags := 2, code := none }
def k4c1 : Code := { maxStack := 4, maxLocals := 2, code := jdk_65_method_57_code, exceptionTable := #[], attributes := #[] }
def k4m1 : Method := { name := "binarySearch", desc := "([II)I", sig := { parameters := [(.array .int), .int], returnType := some .int }, accessFlags := 9, code := some k4c1 }
def k4c2 : Code := { maxStack := 2, maxLocals := 8, code := jdk_65_method_59_code, exceptionTable := #[], attributes := #[] }
def k4m2 : Method := { name := "binarySearch0", desc := "([IIII)I", sig := { parameters := [(.array .int), .int, .int, .int], returnType := some .int }, accessFlags := 10, code := some k4c2 }
/-- java/util/Arrays -/
def k4 : Class := { plain "java/util/Arrays" (some 0) with
  accessFlags := 49
  interfaces := #[]
  cf := some (fileOf pool4 14 #[.nestMembers #[975, 375, 113, 74]] #[{ accessFlags := 2, nameIndex := 5, descriptorIndex := 6, attributes := #[] }, { accessFlags := 9, nameIndex := 794, descriptorIndex := 799, attributes := #[] }, { accessFlags := 10, nameIndex := 207, descriptorIndex := 211, attributes := #[] }] 49 2 #[] #[{ accessFlags := 26, nameIndex := 715, descriptorIndex := 716, attributes := #[] }, { accessFlags := 26, nameIndex := 719, descriptorIndex := 716, attributes := #[] }, { accessFlags := 4120, nameIndex := 445, descriptorIndex := 117, attributes := #[] }])
  fields := #[{ name := "MIN_ARRAY_SORT_GRAN", type := .int, accessFlags := 26, slot := 0, constantValue := 0 }, { name := "INSERTIONSORT_THRESHOLD", type := .int, accessFlags := 26, slot := 1, constantValue := 0 }, { name := "$assertionsDisabled", type := .boolean, accessFlags := 4120, slot := 2, constantValue := 0 }]
  methods := #[k4m0, k4m1, k4m2]
  instanceTypes := #[]
  staticTypes := #[.int, .int, .boolean]
  resolved := Array.replicate 1029 none
  statics := none }

def pool5 : Array CpInfo := pool [(2, .class_ 4), (1, u "java/lang/Object"), (0, u "<init>"), (0, u "()V"), (1, .class_ 10), (1, u "java/lang/System"), (0, u "allowSecurityManager"), (0, u "I"), (16, u "cons"), (0, u "Ljava/io/Console;"), (77, .class_ 110), (1, u "java/lang/System$CallersHolder"), (43, u "initialErrStream"), (0, u "Ljava/io/PrintStream;"), (19, u "security"), (0, u "Ljava/lang/SecurityManager;"), (31, .class_ 209), (0, u "java/lang/System$1"), (7, u "props"), (0, u "Ljava/util/Properties;"), (2, u "lineSeparator"), (0, u "Ljava/lang/String;"), (96, .class_ 321), (1, u "java/lang/System$LoggerFinder"), (5, .class_ 328), (0, u "java/lang/System$Logger"), (67, u "err"), (2, u "out"), (91, u "notSupportedJnuEncoding"), (15, u "in"), (17, u "initialIn"), (0, u "Ljava/io/InputStream;"), (35, u "bootLayer"), (0, u "Ljava/lang/ModuleLayer;"), (99, .class_ 664), (0, u "java/lang/System$2"), (9, u "NEVER"), (2, u "MAYBE"), (49, u "arraycopy"), (0, u "(Ljava/lang/Object;ILjava/lang/Object;II)V"), (72, .class_ 802), (0, u "java/lang/System$Logger$Level")] 31

def k5m0 : Method := { name := "<init>", desc := "()V", sig := { parameters := [], returnType := none }, accessFlags := 2, code := none }
def k5m1 : Method := { name := "arraycopy", desc := "(Ljava/lang/Object;ILjava/lang/Object;II)V", sig := { parameters := [(.object "java/lang/Object"), .int, (.object "java/lang/Object"), .int, .int], returnType := none }, accessFlags := 265, code := none }
/-- java/lang/System -/
def k5 : Class := { plain "java/lang/System" (some 0) with
  accessFlags := 49
  interfaces := #[]
  cf := some (fileOf pool5 8 #[.nestMembers #[319, 327, 801, 108, 663, 208]] #[{ accessFlags := 2, nameIndex := 5, descriptorIndex := 6, attributes := #[] }, { accessFlags := 265, nameIndex := 727, descriptorIndex := 728, attributes := #[] }] 49 2 #[] #[{ accessFlags := 25, nameIndex := 507, descriptorIndex := 526, attributes := #[] }, { accessFlags := 25, nameIndex := 399, descriptorIndex := 155, attributes := #[] }, { accessFlags := 25, nameIndex := 396, descriptorIndex := 155, attributes := #[] }, { accessFlags := 10, nameIndex := 525, descriptorIndex := 526, attributes := #[] }, { accessFlags := 26, nameIndex := 674, descriptorIndex := 12, attributes := #[] }, { accessFlags := 26, nameIndex := 677, descriptorIndex := 12, attributes := #[] }, { accessFlags := 10, nameIndex := 11, descriptorIndex := 12, attributes := #[] }, { accessFlags := 74, nameIndex := 175, descriptorIndex := 176, attributes := #[] }, { accessFlags := 10, nameIndex := 491, descriptorIndex := 222, attributes := #[] }, { accessFlags := 74, nameIndex := 29, descriptorIndex := 30, attributes := #[] }, { accessFlags := 74, nameIndex := 154, descriptorIndex := 155, attributes := #[] }, { accessFlags := 10, nameIndex := 217, descriptorIndex := 218, attributes := #[] }, { accessFlags := 10, nameIndex := 221, descriptorIndex := 222, attributes := #[] }, { accessFlags := 8, nameIndex := 562, descriptorIndex := 563, attributes := #[] }])
  fields := #[{ name := "in", type := (.object "java/io/InputStream"), accessFlags := 25, slot := 0, constantValue := 0 }, { name := "out", type := (.object "java/io/PrintStream"), accessFlags := 25, slot := 1, constantValue := 0 }, { name := "err", type := (.object "java/io/PrintStream"), accessFlags := 25, slot := 2, constantValue := 0 }, { name := "initialIn", type := (.object "java/io/InputStream"), accessFlags := 10, slot := 3, constantValue := 0 }, { name := "NEVER", type := .int, accessFlags := 26, slot := 4, constantValue := 0 }, { name := "MAYBE", type := .int, accessFlags := 26, slot := 5, constantValue := 0 }, { name := "allowSecurityManager", type := .int, accessFlags := 10, slot := 6, constantValue := 0 }, { name := "security", type := (.object "java/lang/SecurityManager"), accessFlags := 74, slot := 7, constantValue := 0 }, { name := "notSupportedJnuEncoding", type := (.object "java/lang/String"), accessFlags := 10, slot := 8, constantValue := 0 }, { name := "cons", type := (.object "java/io/Console"), accessFlags := 74, slot := 9, constantValue := 0 }, { name := "initialErrStream", type := (.object "java/io/PrintStream"), accessFlags := 74, slot := 10, constantValue := 0 }, { name := "props", type := (.object "java/util/Properties"), accessFlags := 10, slot := 11, constantValue := 0 }, { name := "lineSeparator", type := (.object "java/lang/String"), accessFlags := 10, slot := 12, constantValue := 0 }, { name := "bootLayer", type := (.object "java/lang/ModuleLayer"), accessFlags := 8, slot := 13, constantValue := 0 }]
  methods := #[k5m0, k5m1]
  instanceTypes := #[]
  staticTypes := #[(.object "java/io/InputStream"), (.object "java/io/PrintStream"), (.object "java/io/PrintStream"), (.object "java/io/InputStream"), .int, .int, .int, (.object "java/lang/SecurityManager"), (.object "java/lang/String"), (.object "java/io/Console"), (.object "java/io/PrintStream"), (.object "java/util/Properties"), (.object "java/lang/String"), (.object "java/lang/ModuleLayer")]
  resolved := Array.replicate 834 none
  statics := none }

def pool6 : Array CpInfo := pool [(1, u "java/lang/Cloneable"), (0, .class_ 1), (0, u "java/lang/Object"), (0, .class_ 3)] 3

/-- java/lang/Cloneable -/
def k6 : Class := { plain "java/lang/Cloneable" (some 0) with
  accessFlags := 1537
  interfaces := #[]
  cf := some (fileOf pool6 2 #[] #[] 1537 4 #[] #[])
  fields := #[]
  methods := #[]
  instanceTypes := #[]
  staticTypes := #[]
  resolved := Array.replicate 8 none
  statics := none }

def pool7 : Array CpInfo := pool [(1, u "java/io/Serializable"), (0, .class_ 1), (0, u "java/lang/Object"), (0, .class_ 3)] 3

/-- java/io/Serializable -/
def k7 : Class := { plain "java/io/Serializable" (some 0) with
  accessFlags := 1537
  interfaces := #[]
  cf := some (fileOf pool7 2 #[] #[] 1537 4 #[] #[])
  fields := #[]
  methods := #[]
  instanceTypes := #[]
  staticTypes := #[]
  resolved := Array.replicate 8 none
  statics := none }

/-- the primitive byte -/
def k8 : Class := { plain "byte" none with kind := .primitive 'B', accessFlags := 0x411 }
/-- [B -/
def k9 : Class := { plain "[B" (some 0) with kind := .array 8 .byte, interfaces := #[6, 7], accessFlags := 1041 }

/-- the primitive int -/
def k10 : Class := { plain "int" none with kind := .primitive 'I', accessFlags := 0x411 }
/-- [I -/
def k11 : Class := { plain "[I" (some 0) with kind := .array 10 .int, interfaces := #[6, 7], accessFlags := 1041 }

/-- the primitive long -/
def k12 : Class := { plain "long" none with kind := .primitive 'J', accessFlags := 0x411 }
/-- [J -/
def k13 : Class := { plain "[J" (some 0) with kind := .array 12 .long, interfaces := #[6, 7], accessFlags := 1041 }

def heap : Heap := #[{ cls := 2, slots := #[.int 0, .int 0, .int 0, .ref 1, .int 0, .int 0, .long 0, .long 0, .null], vm := .statics 2 },
  { cls := 11, slots := #[], vm := .none }]
def classes : Array Class := #[k0, k1, k2, k3, k4, k5, k6, k7, k8, k9, k10, k11, k12, k13]
def interned : List (Array UInt16 × Addr) := []
def slotsUsed : Nat := 9
def theMethod : MethodId := ⟨1, 1⟩
def args0 : Array Value := #[.int 5, .int 5, .int 5, .int 5, .int 5, .int 5]
def aboutOver (below : List Frame) : State where
  vm := { classes := classes, interned := interned.toArray }
  heap := heap
  slotsUsed := slotsUsed
  threads := #[{ frames := .invoking theMethod args0 :: below }]
def below0 : List Frame := [.native { method := ⟨0, 0⟩, args := #[] }]
def about1 : State := aboutOver below0
def p0 : Program := .bare "" "" ""
def e0 : Env := launch0.env 0 0 0
theorem w_frames : about1.frames = Frame.invoking theMethod args0 :: below0 := rfl
set_option maxRecDepth 65536 in
theorem w_args : argsFit about1.vm theMethod args0 = true := by decide +kernel
set_option maxRecDepth 65536 in
theorem w_heap : heapFits about1 = true := by decide +kernel
set_option maxRecDepth 65536 in
theorem w_runnable : about1.curStatus? = some .runnable := by decide +kernel
set_option maxRecDepth 65536 in
theorem w_alone : about1.alone = true := by decide +kernel
set_option maxRecDepth 65536 in
theorem w_named : about1.methodNamed? x = some theMethod := by decide +kernel
set_option maxRecDepth 65536 in
theorem w_hears : about1.hears theMethod below0 = true := by decide +kernel
set_option maxRecDepth 65536 in
theorem w_ripe : about1.ripe theMethod args0 below0 = true := by decide +kernel
theorem w_running : about1.status = .running := rfl
set_option maxRecDepth 65536 in
theorem w_room : about1.hasRoom e0.platform room_1 = true :=
  launch0.hasRoom_least _ room_1 (by decide +kernel) (by decide +kernel) (by decide +kernel) (by decide +kernel) (by decide +kernel) (by decide +kernel)
theorem allAtoms_all (ts : List Jvm.Cond) (a : Array Jvm.Value) (st : Jvm.State) : (allAtoms ts).before a st = ts.all (fun c => c.before a st) := by
  induction ts with
  | nil => rfl
  | cons c t ih =>
    show (Jvm.Cond.and c (allAtoms t)).before a st = _
    rw [Jvm.Cond.before_and, ih, List.all_cons]
def words1 : List Jvm.Cond := Jvm.Cond.code x code maxLocals ret :: tables_1
/-- a 'code' word, met by the world's own term for the bytes: nothing is compared byte by byte -/
theorem code_word {y : MethodName} {bytes : ByteArray} {mx : Nat} {rt : Option FieldType} {a : Array Value} {s : State} {m : MethodId} {meth : Method} {c : Code} (h1 : s.methodNamed? y = some m) (h2 : s.vm.method? m = some meth) (h3 : meth.code = some c) (h4 : c.code = bytes)
    (h5 : (c.maxLocals == mx && c.exceptionTable.isEmpty && decide (c.maxStack ≤ mostOperands) && decide (meth.sig.returnType = rt) && !meth.locks && decide (parseMethodDescriptor y.desc = some meth.sig)) = true) : (Jvm.Cond.code y bytes mx rt).before a s = true := by
  simp only [Bool.and_eq_true, beq_iff_eq, Bool.not_eq_true', decide_eq_true_eq] at h5
  obtain ⟨⟨⟨⟨⟨g1, g2⟩, g3⟩, g4⟩, g5⟩, g6⟩ := h5
  simp [Cond.before, Cond.holds, Cond.value, h1, h2, h3, h4, g1, g2, g3, g4, g5, g6]
def isCode : Jvm.Cond → Bool
  | .code _ _ _ _ => true
  | _ => false
theorem all_split {L : List Jvm.Cond} {P : Jvm.Cond → Bool} (h1 : L.all (fun c => isCode c || P c) = true) (h2 : ∀ c ∈ L.filter isCode, P c = true) : L.all P = true := by
  refine List.all_eq_true.mpr fun c hc => ?_
  have h := List.all_eq_true.mp h1 c hc
  rcases Bool.eq_false_or_eq_true (isCode c) with hi | hi
  · exact h2 c (List.mem_filter.mpr ⟨hc, hi⟩)
  · simpa [hi] using h
set_option maxRecDepth 65536 in
theorem w_c0 : (Jvm.Cond.code x code maxLocals ret).before args0 about1 = true := code_word (m := ⟨1, 1⟩) (meth := k1m1) (c := k1c1) (by decide +kernel) rfl rfl rfl (by decide +kernel)
set_option maxRecDepth 65536 in
theorem w_c1 : (Jvm.Cond.code ({ cls := "com/example/thrifty_tally/thriftytally/DenseRegistersHoldsManyOverflowsPinLaw", name := "value", desc := "(II)I" } : Jvm.MethodName) method_3_code (2 : Nat) (Option.some Jvm.ClassFile.FieldType.int)).before args0 about1 = true := code_word (m := ⟨1, 2⟩) (meth := k1m2) (c := k1c2) (by decide +kernel) rfl rfl rfl (by decide +kernel)
set_option maxRecDepth 65536 in
theorem w_c2 : (Jvm.Cond.code ({ cls := "com/example/thrifty_tally/thriftytally/DenseRegisters", name := "<init>", desc := "(I)V" } : Jvm.MethodName) prog_1_method_1_code (2 : Nat) (Option.none : Option Jvm.ClassFile.FieldType)).before args0 about1 = true := code_word (m := ⟨2, 0⟩) (meth := k2m0) (c := k2c0) (by decide +kernel) rfl rfl rfl (by decide +kernel)
set_option maxRecDepth 65536 in
theorem w_c3 : (Jvm.Cond.code ({ cls := "com/example/thrifty_tally/thriftytally/DenseRegisters", name := "<init>", desc := "(I[J)V" } : Jvm.MethodName) prog_1_method_3_code (3 : Nat) (Option.none : Option Jvm.ClassFile.FieldType)).before args0 about1 = true := code_word (m := ⟨2, 1⟩) (meth := k2m1) (c := k2c1) (by decide +kernel) rfl rfl rfl (by decide +kernel)
set_option maxRecDepth 65536 in
theorem w_c4 : (Jvm.Cond.code ({ cls := "java/lang/Object", name := "<init>", desc := "()V" } : Jvm.MethodName) object_method_1_code (1 : Nat) (Option.none : Option Jvm.ClassFile.FieldType)).before args0 about1 = true := code_word (m := ⟨0, 0⟩) (meth := k0m0) (c := k0c0) (by decide +kernel) rfl rfl rfl (by decide +kernel)
set_option maxRecDepth 65536 in
theorem w_c5 : (Jvm.Cond.code ({ cls := "com/example/thrifty_tally/thriftytally/DenseRegisters", name := "count", desc := "()I" } : Jvm.MethodName) prog_1_method_8_code (1 : Nat) (Option.some Jvm.ClassFile.FieldType.int)).before args0 about1 = true := code_word (m := ⟨2, 3⟩) (meth := k2m3) (c := k2c3) (by decide +kernel) rfl rfl rfl (by decide +kernel)
set_option maxRecDepth 65536 in
theorem w_c6 : (Jvm.Cond.code ({ cls := "com/example/thrifty_tally/thriftytally/DenseRegisters", name := "raise", desc := "(II)Z" } : Jvm.MethodName) prog_1_method_14_code (7 : Nat) (Option.some Jvm.ClassFile.FieldType.boolean)).before args0 about1 = true := code_word (m := ⟨2, 4⟩) (meth := k2m4) (c := k2c4) (by decide +kernel) rfl rfl rfl (by decide +kernel)
set_option maxRecDepth 65536 in
theorem w_c7 : (Jvm.Cond.code ({ cls := "com/example/thrifty_tally/thriftytally/DenseRegisters", name := "delta", desc := "(I)I" } : Jvm.MethodName) prog_1_method_35_code (2 : Nat) (Option.some Jvm.ClassFile.FieldType.int)).before args0 about1 = true := code_word (m := ⟨2, 9⟩) (meth := k2m9) (c := k2c9) (by decide +kernel) rfl rfl rfl (by decide +kernel)
set_option maxRecDepth 65536 in
theorem w_c8 : (Jvm.Cond.code ({ cls := "com/example/thrifty_tally/thriftytally/DenseRegisters", name := "deltaShift", desc := "(I)I" } : Jvm.MethodName) prog_1_method_36_code (1 : Nat) (Option.some Jvm.ClassFile.FieldType.int)).before args0 about1 = true := code_word (m := ⟨2, 10⟩) (meth := k2m10) (c := k2c10) (by decide +kernel) rfl rfl rfl (by decide +kernel)
set_option maxRecDepth 65536 in
theorem w_c9 : (Jvm.Cond.code ({ cls := "com/example/thrifty_tally/thriftytally/DenseRegisters", name := "termBelowLargest", desc := "(I)J" } : Jvm.MethodName) prog_1_method_34_code (2 : Nat) (Option.some Jvm.ClassFile.FieldType.long)).before args0 about1 = true := code_word (m := ⟨2, 8⟩) (meth := k2m8) (c := k2c8) (by decide +kernel) rfl rfl rfl (by decide +kernel)
set_option maxRecDepth 65536 in
theorem w_c10 : (Jvm.Cond.code ({ cls := "com/example/thrifty_tally/thriftytally/DenseRegistersHoldsManyOverflowsPinLaw", name := "over", desc := "(I)I" } : Jvm.MethodName) method_4_code (1 : Nat) (Option.some Jvm.ClassFile.FieldType.int)).before args0 about1 = true := code_word (m := ⟨1, 3⟩) (meth := k1m3) (c := k1c3) (by decide +kernel) rfl rfl rfl (by decide +kernel)
set_option maxRecDepth 65536 in
theorem w_c11 : (Jvm.Cond.code ({ cls := "com/example/thrifty_tally/thriftytally/DenseRegisters", name := "holdsManyOverflows", desc := "()Z" } : Jvm.MethodName) prog_1_method_21_code (1 : Nat) (Option.some Jvm.ClassFile.FieldType.boolean)).before args0 about1 = true := code_word (m := ⟨2, 5⟩) (meth := k2m5) (c := k2c5) (by decide +kernel) rfl rfl rfl (by decide +kernel)
set_option maxRecDepth 65536 in
theorem w_c12 : (Jvm.Cond.code ({ cls := "com/example/thrifty_tally/thriftytally/DenseRegisters", name := "raiseFrom", desc := "(III)Z" } : Jvm.MethodName) prog_1_method_32_code (6 : Nat) (Option.some Jvm.ClassFile.FieldType.boolean)).before args0 about1 = true := code_word (m := ⟨2, 6⟩) (meth := k2m6) (c := k2c6) (by decide +kernel) rfl rfl rfl (by decide +kernel)
set_option maxRecDepth 65536 in
theorem w_c13 : (Jvm.Cond.code ({ cls := "com/example/thrifty_tally/thriftytally/DenseRegisters", name := "noteRaise", desc := "(II)V" } : Jvm.MethodName) prog_1_method_33_code (3 : Nat) (Option.none : Option Jvm.ClassFile.FieldType)).before args0 about1 = true := code_word (m := ⟨2, 7⟩) (meth := k2m7) (c := k2c7) (by decide +kernel) rfl rfl rfl (by decide +kernel)
set_option maxRecDepth 65536 in
theorem w_c14 : (Jvm.Cond.code ({ cls := "java/lang/Math", name := "min", desc := "(II)I" } : Jvm.MethodName) jdk_29_method_69_code (2 : Nat) (Option.some Jvm.ClassFile.FieldType.int)).before args0 about1 = true := code_word (m := ⟨3, 1⟩) (meth := k3m1) (c := k3c1) (by decide +kernel) rfl rfl rfl (by decide +kernel)
set_option maxRecDepth 65536 in
theorem w_c15 : (Jvm.Cond.code ({ cls := "com/example/thrifty_tally/thriftytally/DenseRegisters", name := "setOverflow", desc := "(II)V" } : Jvm.MethodName) prog_1_method_42_code (5 : Nat) (Option.none : Option Jvm.ClassFile.FieldType)).before args0 about1 = true := code_word (m := ⟨2, 13⟩) (meth := k2m13) (c := k2c13) (by decide +kernel) rfl rfl rfl (by decide +kernel)
set_option maxRecDepth 65536 in
theorem w_c16 : (Jvm.Cond.code ({ cls := "com/example/thrifty_tally/thriftytally/DenseRegisters", name := "overflowPosition", desc := "(I)I" } : Jvm.MethodName) prog_1_method_39_code (2 : Nat) (Option.some Jvm.ClassFile.FieldType.int)).before args0 about1 = true := code_word (m := ⟨2, 11⟩) (meth := k2m11) (c := k2c11) (by decide +kernel) rfl rfl rfl (by decide +kernel)
set_option maxRecDepth 65536 in
theorem w_c17 : (Jvm.Cond.code ({ cls := "java/util/Arrays", name := "binarySearch", desc := "([II)I" } : Jvm.MethodName) jdk_65_method_57_code (2 : Nat) (Option.some Jvm.ClassFile.FieldType.int)).before args0 about1 = true := code_word (m := ⟨4, 1⟩) (meth := k4m1) (c := k4c1) (by decide +kernel) rfl rfl rfl (by decide +kernel)
set_option maxRecDepth 65536 in
theorem w_c18 : (Jvm.Cond.code ({ cls := "java/util/Arrays", name := "binarySearch0", desc := "([IIII)I" } : Jvm.MethodName) jdk_65_method_59_code (8 : Nat) (Option.some Jvm.ClassFile.FieldType.int)).before args0 about1 = true := code_word (m := ⟨4, 2⟩) (meth := k4m2) (c := k4c2) (by decide +kernel) rfl rfl rfl (by decide +kernel)
set_option maxRecDepth 65536 in
theorem w_c19 : (Jvm.Cond.code ({ cls := "com/example/thrifty_tally/thriftytally/DenseRegisters", name := "isOverflowOf", desc := "(II)Z" } : Jvm.MethodName) prog_1_method_40_code (3 : Nat) (Option.some Jvm.ClassFile.FieldType.boolean)).before args0 about1 = true := code_word (m := ⟨2, 12⟩) (meth := k2m12) (c := k2c12) (by decide +kernel) rfl rfl rfl (by decide +kernel)
set_option maxRecDepth 65536 in
theorem w_c20 : (Jvm.Cond.code ({ cls := "com/example/thrifty_tally/thriftytally/DenseRegisters", name := "overflow", desc := "(II)I" } : Jvm.MethodName) prog_1_method_6_code (2 : Nat) (Option.some Jvm.ClassFile.FieldType.int)).before args0 about1 = true := code_word (m := ⟨2, 2⟩) (meth := k2m2) (c := k2c2) (by decide +kernel) rfl rfl rfl (by decide +kernel)
def codes1 : List Jvm.Cond := [Jvm.Cond.code x code maxLocals ret, Jvm.Cond.code ({ cls := "com/example/thrifty_tally/thriftytally/DenseRegistersHoldsManyOverflowsPinLaw", name := "value", desc := "(II)I" } : Jvm.MethodName) method_3_code (2 : Nat) (Option.some Jvm.ClassFile.FieldType.int), Jvm.Cond.code ({ cls := "com/example/thrifty_tally/thriftytally/DenseRegisters", name := "<init>", desc := "(I)V" } : Jvm.MethodName) prog_1_method_1_code (2 : Nat) (Option.none : Option Jvm.ClassFile.FieldType), Jvm.Cond.code ({ cls := "com/example/thrifty_tally/thriftytally/DenseRegisters", name := "<init>", desc := "(I[J)V" } : Jvm.MethodName) prog_1_method_3_code (3 : Nat) (Option.none : Option Jvm.ClassFile.FieldType), Jvm.Cond.code ({ cls := "java/lang/Object", name := "<init>", desc := "()V" } : Jvm.MethodName) object_method_1_code (1 : Nat) (Option.none : Option Jvm.ClassFile.FieldType), Jvm.Cond.code ({ cls := "com/example/thrifty_tally/thriftytally/DenseRegisters", name := "count", desc := "()I" } : Jvm.MethodName) prog_1_method_8_code (1 : Nat) (Option.some Jvm.ClassFile.FieldType.int), Jvm.Cond.code ({ cls := "com/example/thrifty_tally/thriftytally/DenseRegisters", name := "raise", desc := "(II)Z" } : Jvm.MethodName) prog_1_method_14_code (7 : Nat) (Option.some Jvm.ClassFile.FieldType.boolean), Jvm.Cond.code ({ cls := "com/example/thrifty_tally/thriftytally/DenseRegisters", name := "delta", desc := "(I)I" } : Jvm.MethodName) prog_1_method_35_code (2 : Nat) (Option.some Jvm.ClassFile.FieldType.int), Jvm.Cond.code ({ cls := "com/example/thrifty_tally/thriftytally/DenseRegisters", name := "deltaShift", desc := "(I)I" } : Jvm.MethodName) prog_1_method_36_code (1 : Nat) (Option.some Jvm.ClassFile.FieldType.int), Jvm.Cond.code ({ cls := "com/example/thrifty_tally/thriftytally/DenseRegisters", name := "termBelowLargest", desc := "(I)J" } : Jvm.MethodName) prog_1_method_34_code (2 : Nat) (Option.some Jvm.ClassFile.FieldType.long), Jvm.Cond.code ({ cls := "com/example/thrifty_tally/thriftytally/DenseRegistersHoldsManyOverflowsPinLaw", name := "over", desc := "(I)I" } : Jvm.MethodName) method_4_code (1 : Nat) (Option.some Jvm.ClassFile.FieldType.int), Jvm.Cond.code ({ cls := "com/example/thrifty_tally/thriftytally/DenseRegisters", name := "holdsManyOverflows", desc := "()Z" } : Jvm.MethodName) prog_1_method_21_code (1 : Nat) (Option.some Jvm.ClassFile.FieldType.boolean), Jvm.Cond.code ({ cls := "com/example/thrifty_tally/thriftytally/DenseRegisters", name := "raiseFrom", desc := "(III)Z" } : Jvm.MethodName) prog_1_method_32_code (6 : Nat) (Option.some Jvm.ClassFile.FieldType.boolean), Jvm.Cond.code ({ cls := "com/example/thrifty_tally/thriftytally/DenseRegisters", name := "noteRaise", desc := "(II)V" } : Jvm.MethodName) prog_1_method_33_code (3 : Nat) (Option.none : Option Jvm.ClassFile.FieldType), Jvm.Cond.code ({ cls := "java/lang/Math", name := "min", desc := "(II)I" } : Jvm.MethodName) jdk_29_method_69_code (2 : Nat) (Option.some Jvm.ClassFile.FieldType.int), Jvm.Cond.code ({ cls := "com/example/thrifty_tally/thriftytally/DenseRegisters", name := "setOverflow", desc := "(II)V" } : Jvm.MethodName) prog_1_method_42_code (5 : Nat) (Option.none : Option Jvm.ClassFile.FieldType), Jvm.Cond.code ({ cls := "com/example/thrifty_tally/thriftytally/DenseRegisters", name := "overflowPosition", desc := "(I)I" } : Jvm.MethodName) prog_1_method_39_code (2 : Nat) (Option.some Jvm.ClassFile.FieldType.int), Jvm.Cond.code ({ cls := "java/util/Arrays", name := "binarySearch", desc := "([II)I" } : Jvm.MethodName) jdk_65_method_57_code (2 : Nat) (Option.some Jvm.ClassFile.FieldType.int), Jvm.Cond.code ({ cls := "java/util/Arrays", name := "binarySearch0", desc := "([IIII)I" } : Jvm.MethodName) jdk_65_method_59_code (8 : Nat) (Option.some Jvm.ClassFile.FieldType.int), Jvm.Cond.code ({ cls := "com/example/thrifty_tally/thriftytally/DenseRegisters", name := "isOverflowOf", desc := "(II)Z" } : Jvm.MethodName) prog_1_method_40_code (3 : Nat) (Option.some Jvm.ClassFile.FieldType.boolean), Jvm.Cond.code ({ cls := "com/example/thrifty_tally/thriftytally/DenseRegisters", name := "overflow", desc := "(II)I" } : Jvm.MethodName) prog_1_method_6_code (2 : Nat) (Option.some Jvm.ClassFile.FieldType.int)]
set_option maxRecDepth 65536 in
theorem codes_eq : words1.filter isCode = codes1 := rfl
theorem w_codes : ∀ c ∈ words1.filter isCode, c.before args0 about1 = true := by
  rw [codes_eq]
  intro c hc
  simp only [codes1, List.mem_cons, List.not_mem_nil, or_false] at hc
  rcases hc with rfl | rfl | rfl | rfl | rfl | rfl | rfl | rfl | rfl | rfl | rfl | rfl | rfl | rfl | rfl | rfl | rfl | rfl | rfl | rfl | rfl
  · exact w_c0
  · exact w_c1
  · exact w_c2
  · exact w_c3
  · exact w_c4
  · exact w_c5
  · exact w_c6
  · exact w_c7
  · exact w_c8
  · exact w_c9
  · exact w_c10
  · exact w_c11
  · exact w_c12
  · exact w_c13
  · exact w_c14
  · exact w_c15
  · exact w_c16
  · exact w_c17
  · exact w_c18
  · exact w_c19
  · exact w_c20
set_option maxRecDepth 65536 in
theorem w_t1 : (words1.take 24).all (fun c => isCode c || c.before args0 about1) = true := by decide +kernel
set_option maxRecDepth 65536 in
theorem w_t2 : ((words1.drop 24).take 24).all (fun c => isCode c || c.before args0 about1) = true := by decide +kernel
set_option maxRecDepth 65536 in
theorem w_t3 : (((words1.drop 24).drop 24).take 24).all (fun c => isCode c || c.before args0 about1) = true := by decide +kernel
set_option maxRecDepth 65536 in
theorem w_t4 : ((((words1.drop 24).drop 24).drop 24).take 24).all (fun c => isCode c || c.before args0 about1) = true := by decide +kernel
set_option maxRecDepth 65536 in
theorem w_t5 : ((((words1.drop 24).drop 24).drop 24).drop 24).all (fun c => isCode c || c.before args0 about1) = true := by decide +kernel
theorem w_tables : (allAtoms (Jvm.Cond.code x code maxLocals ret :: tables_1)).before args0 about1 = true := by
  rw [allAtoms_all]
  show words1.all (fun c => c.before args0 about1) = true
  refine all_split ?_ w_codes
  rw [← List.take_append_drop 24 words1, List.all_append, w_t1, ← List.take_append_drop 24 (words1.drop 24), List.all_append, w_t2, ← List.take_append_drop 24 ((words1.drop 24).drop 24), List.all_append, w_t3, ← List.take_append_drop 24 (((words1.drop 24).drop 24).drop 24), List.all_append, w_t4, w_t5]
  rfl
set_option maxRecDepth 65536 in
theorem w_case : (Jvm.Cond.and given_1 narrow_1).before args0 about1 = true := by decide +kernel
theorem w_applies : (headSpec (Jvm.Cond.code x code maxLocals ret :: tables_1) room_1).applies x e0.platform about1 = true :=
  (Spec.applies_iff w_frames).mpr ⟨w_running, w_runnable, w_alone, w_named, w_hears, w_ripe, w_room, w_tables⟩
theorem atStart : AtStart classFile x code maxLocals ret World_1 tables_1 room_1 Calls_1 rest_1 Pre_1 launch0 p0 e0 about1 theMethod args0 below0 :=
  ⟨lists_1, trivial, launch0.admits_env _ _ _, launch0.least_env, fairChoices_fair.cas, fairChoices_fair.clock, w_frames, w_args, w_heap, w_applies, trivial, trivial, w_case⟩
end start1
theorem witness_1 : WitnessClaimed_1 := ⟨start1.p0, start1.e0, start1.about1, start1.theMethod, start1.args0, start1.below0, start1.atStart⟩
end Jvm.Pilot.@@N@@
