import JvmDerived
import JvmDerived.Pilot.@@N@@Statement
import JvmDerived.Pilot.@@N@@Code
set_option linter.unusedVariables false
set_option linter.unusedSimpArgs false
namespace Jvm.Own
open Jvm Jvm.ClassFile Sem Op Lib Jvm.Free Jvm.Stand Jvm.LawKit Jvm.RoadKit
section Core
variable {p : Program} {l : Launch} {e : Env} {R : Room} {s : State} {m : MethodId} {args : Array Value} {below : List Frame} {meth : Method} {c : Code} {Z : State} {own nm : String} {bytes : ByteArray} {maxL : Nat} {ret : Option FieldType} {n0 : Nat} {a0 : Array Value}
  {T T' : State} {h h' : Heap} {cells slots : Nat} {Q : Option Value → Heap → Prop} {Ls : Array Slot} {st : List Value} {pc n : Nat}
/-- where a walk stands: the state T, its heap h, the cells and slots made so far; nothing below n0 written -/
def Pos (p : Program) (l : Launch) (e : Env) (R : Room) (s : State) (m : MethodId) (args : Array Value) (below : List Frame) (meth : Method) (c : Code) (Z : State) (own nm : String) (bytes : ByteArray) (maxL : Nat) (ret : Option FieldType) (n0 : Nat) (T : State) (h : Heap) (cells slots : Nat) : Prop :=
  (∃ locs, Stand p l e R s m args below meth c T locs cells slots ∧ Fr n0 locs) ∧ T.heap = h ∧ p.tables.exec = Jvm.exec ∧ c.code = bytes ∧ c.maxLocals = maxL ∧ s.vm.findClass own = some m.cls ∧ Z.Warmed39 s.vm ∧ meth.sig.returnType = ret ∧ meth.name = nm ∧ meth.locks = false ∧ n0 ≤ s.heap.size
/-- from the frame g the method comes to its end as Q says -/
def Ends (p : Program) (e : Env) (below : List Frame) (s : State) (R : Room) (n0 : Nat) (Q : Option Value → Heap → Prop) (T : State) (g : JFrame) : Prop :=
  ∃ s₂ o, Steps p.tables e below (T.setTop g) s₂ ∧ s₂.status = .running ∧ Ended s₂ below o ∧ ∃ v L, o = .returned v ∧ (Q v s₂.heap ∧ Fr n0 L) ∧ FrameEnd s o s₂ L R.cells R.slots
/-- a method's contract at given arguments and a given heap -/
def Meth (l : Launch) (Z : State) (y : MethodName) (bytes : ByteArray) (maxL : Nat) (ret : Option FieldType) (rm : Room) (as : Array Value) (h : Heap) (n0 : Nat) (Q : Option Value → Heap → Prop) : Prop :=
  ∀ ws : List Cond, MetFree l y (head1 (Cond.code y bytes maxL ret :: ws) rm) (fun a U => a = as ∧ Z.Warmed39 U.vm ∧ U.heap = h) (fun _ _ _ _ _ => True) (fun _ U o U' => ∃ v L, o = .returned v ∧ (Q v U'.heap ∧ Fr n0 L) ∧ FrameEnd U o U' L rm.cells rm.slots)
theorem Pos.stand (P : Pos p l e R s m args below meth c Z own nm bytes maxL ret n0 T h cells slots) : ∃ locs, Stand p l e R s m args below meth c T locs cells slots ∧ Fr n0 locs := P.1
theorem Pos.heap (P : Pos p l e R s m args below meth c Z own nm bytes maxL ret n0 T h cells slots) : T.heap = h := P.2.1
theorem Pos.hx (P : Pos p l e R s m args below meth c Z own nm bytes maxL ret n0 T h cells slots) : p.tables.exec = Jvm.exec := P.2.2.1
theorem Pos.code (P : Pos p l e R s m args below meth c Z own nm bytes maxL ret n0 T h cells slots) : c.code = bytes := P.2.2.2.1
theorem Pos.maxl (P : Pos p l e R s m args below meth c Z own nm bytes maxL ret n0 T h cells slots) : c.maxLocals = maxL := P.2.2.2.2.1
theorem Pos.own' (P : Pos p l e R s m args below meth c Z own nm bytes maxL ret n0 T h cells slots) : s.vm.findClass own = some m.cls := P.2.2.2.2.2.1
theorem Pos.hZ (P : Pos p l e R s m args below meth c Z own nm bytes maxL ret n0 T h cells slots) : Z.Warmed39 s.vm := P.2.2.2.2.2.2.1
theorem Pos.rets (P : Pos p l e R s m args below meth c Z own nm bytes maxL ret n0 T h cells slots) : meth.sig.returnType = ret := P.2.2.2.2.2.2.2.1
theorem Pos.name (P : Pos p l e R s m args below meth c Z own nm bytes maxL ret n0 T h cells slots) : meth.name = nm := P.2.2.2.2.2.2.2.2.1
theorem Pos.locks (P : Pos p l e R s m args below meth c Z own nm bytes maxL ret n0 T h cells slots) : meth.locks = false := P.2.2.2.2.2.2.2.2.2.1
theorem Pos.low0 (P : Pos p l e R s m args below meth c Z own nm bytes maxL ret n0 T h cells slots) : n0 ≤ s.heap.size := P.2.2.2.2.2.2.2.2.2.2
theorem Pos.low (P : Pos p l e R s m args below meth c Z own nm bytes maxL ret n0 T h cells slots) : n0 ≤ h.size := by
  obtain ⟨_, X, -⟩ := P.stand; rw [← P.heap]; exact Nat.le_trans P.low0 X.same.2.1
theorem Pos.here (P : Pos p l e R s m args below meth c Z own nm bytes maxL ret n0 T h cells slots) : At T m c below := by obtain ⟨_, X, -⟩ := P.stand; exact X.here
/-- on to another state of the same walk -/
theorem Pos.to (P : Pos p l e R s m args below meth c Z own nm bytes maxL ret n0 T h cells slots) {cells' slots' : Nat} {locs : List Loc} (X : Stand p l e R s m args below meth c T' locs cells' slots') (N : Fr n0 locs) (e' : T'.heap = h') : Pos p l e R s m args below meth c Z own nm bytes maxL ret n0 T' h' cells' slots' :=
  ⟨⟨_, X, N⟩, e', P.2.2.1, P.2.2.2.1, P.2.2.2.2.1, P.2.2.2.2.2.1, P.2.2.2.2.2.2.1, P.2.2.2.2.2.2.2.1, P.2.2.2.2.2.2.2.2.1, P.2.2.2.2.2.2.2.2.2.1, P.low0⟩
theorem Ends.via {g g' : JFrame} (E : Ends p e below s R n0 Q T' g') (k : ∀ t, Steps p.tables e below (T'.setTop g') t → Steps p.tables e below (T.setTop g) t) : Ends p e below s R n0 Q T g := by
  obtain ⟨s₂, o, h1, h2⟩ := E; exact ⟨s₂, o, k _ h1, h2⟩
theorem Ends.cast {g g' : JFrame} (q : g = g') (E : Ends p e below s R n0 Q T g') : Ends p e below s R n0 Q T g := q ▸ E
/-- a value by a name -/
theorem nameI {α : Type} {x : α} {F : α → Prop} (k : ∀ z, z = x → F z) : F x := k x rfl
theorem Meth.of {y : MethodName} {rm : Room} {as : Array Value} (hcls : plainFor y = true) (hlow : n0 ≤ h.size)
    (body : ∀ p e s m args below meth c T, Pos p l e rm s m args below meth c Z y.cls y.name bytes maxL ret n0 T h 0 0 → Ends p e below s rm n0 Q T (entryFrame m as maxL)) : Meth l Z y bytes maxL ret rm as h n0 Q := by
  intro ws
  refine MetFree.of_bodySF hcls hisR ?_
  intro p e s m args below meth c s₁ Bd hml0 hP hK
  obtain ⟨rfl, hZ, hh⟩ := hP
  have hown : s.vm.findClass y.cls = some m.cls := findClass_of_methodNamed Bd.named
  have hnm := (name_of_methodNamed Bd.named Bd.method).1
  have X0 : Stand p l e rm s m args below meth c s₁ [] 0 0 := Stand.of_body Bd
  have e0 : s₁.heap = h := by rw [← hh, Bd.state]; rfl
  exact body p e s m args below meth c s₁ ⟨⟨[], X0, Fr.nil n0⟩, e0, Bd.exec, Bd.bytes, hml0, hown, hZ, Bd.returns, hnm, Bd.notSynchronized, hh ▸ hlow⟩
/-! returns -/
theorem retV (P : Pos p l e R s m args below meth c Z own nm bytes maxL none n0 T h cells slots) (hd : decode bytes pc = .ok (.return_, 1)) (hc : cells ≤ R.cells) (hs : slots ≤ R.slots) (q : Q none h) : Ends p e below s R n0 Q T (mkF m pc Ls []) := by
  obtain ⟨locs, X, N⟩ := P.stand
  obtain ⟨fs, hr, hrun, hended, hW, hsame⟩ := X.leave (v := none) (fun _ => rfl) P.locks
  refine ⟨_, _, X.returnOut P.hx P.rets (hb P.code hd) hr, hrun, hended, _, _, rfl, ⟨?_, N⟩, ⟨_, rfl⟩, hW, hsame.mono hc hs⟩
  show Q none T.heap
  rw [P.heap]; exact q
theorem retA {w : Value} {t : FieldType} {i : Instr} (P : Pos p l e R s m args below meth c Z own nm bytes maxL (some t) n0 T h cells slots) (hd : decode bytes pc = .ok (i, 1)) (hn : narrow t w = w)
    (hi : (i = .ireturn ∧ (t = .int ∨ t = .boolean ∨ t = .byte ∨ t = .char ∨ t = .short) ∧ ∃ z, w = .int z) ∨ (i = .lreturn ∧ t = .long ∧ ∃ z, w = .long z) ∨ (i = .dreturn ∧ t = .double ∧ ∃ z, w = .double z) ∨ (i = .freturn ∧ t = .float ∧ ∃ z, w = .float z) ∨ (i = .areturn ∧ t.isReference = true ∧ w.isRef = true))
    (hc : cells ≤ R.cells) (hs : slots ≤ R.slots) (q : Q (some w) h) : Ends p e below s R n0 Q T (mkF m pc Ls (w :: st)) := by
  obtain ⟨locs, X, N⟩ := P.stand
  obtain ⟨fs, hr, hrun, hended, hW, hsame⟩ := X.leave (v := some w) (fun h => by rw [P.rets] at h; cases h) P.locks
  refine ⟨_, _, retOut X P.hx P.rets hn hi (hb P.code hd) hr, hrun, hended, _, _, rfl, ⟨?_, N⟩, ⟨_, rfl⟩, hW, hsame.mono hc hs⟩
  show Q (some w) T.heap
  rw [P.heap]; exact q
theorem retI {x : Int32} (P : Pos p l e R s m args below meth c Z own nm bytes maxL (some .int) n0 T h cells slots) (hd : decode bytes pc = .ok (.ireturn, 1)) (hc : cells ≤ R.cells) (hs : slots ≤ R.slots) (q : Q (some (.int x)) h) : Ends p e below s R n0 Q T (mkF m pc Ls (.int x :: st)) :=
  retA P hd rfl (Or.inl ⟨rfl, Or.inl rfl, _, rfl⟩) hc hs q
theorem retL {x : Int64} (P : Pos p l e R s m args below meth c Z own nm bytes maxL (some .long) n0 T h cells slots) (hd : decode bytes pc = .ok (.lreturn, 1)) (hc : cells ≤ R.cells) (hs : slots ≤ R.slots) (q : Q (some (.long x)) h) : Ends p e below s R n0 Q T (mkF m pc Ls (.long x :: st)) :=
  retA P hd rfl (Or.inr (Or.inl ⟨rfl, rfl, _, rfl⟩)) hc hs q
theorem retR {w : Value} {C : String} (P : Pos p l e R s m args below meth c Z own nm bytes maxL (some (.object C)) n0 T h cells slots) (hd : decode bytes pc = .ok (.areturn, 1)) (hw : w.isRef = true) (hc : cells ≤ R.cells) (hs : slots ≤ R.slots) (q : Q (some w) h) : Ends p e below s R n0 Q T (mkF m pc Ls (w :: st)) := by
  refine retA P hd ?_ (Or.inr (Or.inr (Or.inr (Or.inr ⟨rfl, rfl, hw⟩)))) hc hs q
  rcases ref_cases hw with rfl | ⟨z, rfl⟩ <;> rfl
/-- a boolean's return narrows to the last bit -/
theorem retZ {x : Int32} (P : Pos p l e R s m args below meth c Z own nm bytes maxL (some .boolean) n0 T h cells slots) (hd : decode bytes pc = .ok (.ireturn, 1)) (hx : x = 0 ∨ x = 1) (hc : cells ≤ R.cells) (hs : slots ≤ R.slots) (q : Q (some (.int x)) h) : Ends p e below s R n0 Q T (mkF m pc Ls (.int x :: st)) := by
  refine retA P hd ?_ (Or.inl ⟨rfl, Or.inr (Or.inl rfl), _, rfl⟩) hc hs q
  rcases hx with rfl | rfl <;> rfl
theorem retB {x : Int32} (P : Pos p l e R s m args below meth c Z own nm bytes maxL (some .byte) n0 T h cells slots) (hd : decode bytes pc = .ok (.ireturn, 1)) (hx : x.toInt8.toInt32 = x) (hc : cells ≤ R.cells) (hs : slots ≤ R.slots) (q : Q (some (.int x)) h) : Ends p e below s R n0 Q T (mkF m pc Ls (.int x :: st)) :=
  retA P hd (by show Value.int x.toInt8.toInt32 = Value.int x; rw [hx]) (Or.inl ⟨rfl, Or.inr (Or.inr (Or.inl rfl)), _, rfl⟩) hc hs q
theorem iloadN (P : Pos p l e R s m args below meth c Z own nm bytes maxL ret n0 T h cells slots) {j : Fin 4} {v : Int32} (hd : decode bytes pc = .ok (.iload_n j, 1)) (hl : Ls[j.val]? = some (.val (.int v))) (hn : n = pc + 1)
    (E : Ends p e below s R n0 Q T (mkF m n Ls (.int v :: st))) : Ends p e below s R n0 Q T (mkF m pc Ls st) := by
  subst hn; exact E.via fun t k => XS.iloadN P.here P.hx rfl (hb P.code hd) hl k
theorem iload (P : Pos p l e R s m args below meth c Z own nm bytes maxL ret n0 T h cells slots) {j : Nat} {v : Int32} (hd : decode bytes pc = .ok (.iload j, 2)) (hl : Ls[j]? = some (.val (.int v))) (hn : n = pc + 2)
    (E : Ends p e below s R n0 Q T (mkF m n Ls (.int v :: st))) : Ends p e below s R n0 Q T (mkF m pc Ls st) := by
  subst hn; exact E.via fun t k => XS.iload P.here P.hx rfl (hb P.code hd) hl k
theorem istoreN (P : Pos p l e R s m args below meth c Z own nm bytes maxL ret n0 T h cells slots) {j : Fin 4} {v : Int32} {l' : Array Slot} (hd : decode bytes pc = .ok (.istore_n j, 1)) (hl : storeLocals Ls j.val (.int v) = some l') (hn : n = pc + 1)
    (E : Ends p e below s R n0 Q T (mkF m n l' st)) : Ends p e below s R n0 Q T (mkF m pc Ls (.int v :: st)) := by
  subst hn; exact E.via fun t k => XS.istoreN P.here P.hx rfl (hb P.code hd) rfl hl k
theorem istore (P : Pos p l e R s m args below meth c Z own nm bytes maxL ret n0 T h cells slots) {j : Nat} {v : Int32} {l' : Array Slot} (hd : decode bytes pc = .ok (.istore j, 2)) (hl : storeLocals Ls j (.int v) = some l') (hn : n = pc + 2)
    (E : Ends p e below s R n0 Q T (mkF m n l' st)) : Ends p e below s R n0 Q T (mkF m pc Ls (.int v :: st)) := by
  subst hn; exact E.via fun t k => XS.istore P.here P.hx rfl (hb P.code hd) rfl hl k
theorem lloadN (P : Pos p l e R s m args below meth c Z own nm bytes maxL ret n0 T h cells slots) {j : Fin 4} {v : Int64} (hd : decode bytes pc = .ok (.lload_n j, 1)) (hl : Ls[j.val]? = some (.val (.long v))) (hn : n = pc + 1)
    (E : Ends p e below s R n0 Q T (mkF m n Ls (.long v :: st))) : Ends p e below s R n0 Q T (mkF m pc Ls st) := by
  subst hn; exact E.via fun t k => XS.lloadN P.here P.hx rfl (hb P.code hd) hl k
theorem lload (P : Pos p l e R s m args below meth c Z own nm bytes maxL ret n0 T h cells slots) {j : Nat} {v : Int64} (hd : decode bytes pc = .ok (.lload j, 2)) (hl : Ls[j]? = some (.val (.long v))) (hn : n = pc + 2)
    (E : Ends p e below s R n0 Q T (mkF m n Ls (.long v :: st))) : Ends p e below s R n0 Q T (mkF m pc Ls st) := by
  subst hn; exact E.via fun t k => XS.lload P.here P.hx rfl (hb P.code hd) hl k
theorem lstoreN (P : Pos p l e R s m args below meth c Z own nm bytes maxL ret n0 T h cells slots) {j : Fin 4} {v : Int64} {l' : Array Slot} (hd : decode bytes pc = .ok (.lstore_n j, 1)) (hl : storeLocals Ls j.val (.long v) = some l') (hn : n = pc + 1)
    (E : Ends p e below s R n0 Q T (mkF m n l' st)) : Ends p e below s R n0 Q T (mkF m pc Ls (.long v :: st)) := by
  subst hn; exact E.via fun t k => XS.lstoreN P.here P.hx rfl (hb P.code hd) rfl hl k
theorem lstore (P : Pos p l e R s m args below meth c Z own nm bytes maxL ret n0 T h cells slots) {j : Nat} {v : Int64} {l' : Array Slot} (hd : decode bytes pc = .ok (.lstore j, 2)) (hl : storeLocals Ls j (.long v) = some l') (hn : n = pc + 2)
    (E : Ends p e below s R n0 Q T (mkF m n l' st)) : Ends p e below s R n0 Q T (mkF m pc Ls (.long v :: st)) := by
  subst hn; exact E.via fun t k => XS.lstore P.here P.hx rfl (hb P.code hd) rfl hl k
theorem aloadN (P : Pos p l e R s m args below meth c Z own nm bytes maxL ret n0 T h cells slots) {j : Fin 4} {v : Value} (hd : decode bytes pc = .ok (.aload_n j, 1)) (hl : Ls[j.val]? = some (.val v)) (hv : v.isRef = true) (hn : n = pc + 1)
    (E : Ends p e below s R n0 Q T (mkF m n Ls (v :: st))) : Ends p e below s R n0 Q T (mkF m pc Ls st) := by
  subst hn; exact E.via fun t k => XS.aloadN P.here P.hx rfl (hb P.code hd) hl hv k
theorem aload (P : Pos p l e R s m args below meth c Z own nm bytes maxL ret n0 T h cells slots) {j : Nat} {v : Value} (hd : decode bytes pc = .ok (.aload j, 2)) (hl : Ls[j]? = some (.val v)) (hv : v.isRef = true) (hn : n = pc + 2)
    (E : Ends p e below s R n0 Q T (mkF m n Ls (v :: st))) : Ends p e below s R n0 Q T (mkF m pc Ls st) := by
  subst hn; exact E.via fun t k => XS.aload P.here P.hx rfl (hb P.code hd) hl hv k
theorem astoreN (P : Pos p l e R s m args below meth c Z own nm bytes maxL ret n0 T h cells slots) {j : Fin 4} {v : Value} {l' : Array Slot} (hd : decode bytes pc = .ok (.astore_n j, 1)) (hv : v.isRef = true) (hl : storeLocals Ls j.val v = some l') (hn : n = pc + 1)
    (E : Ends p e below s R n0 Q T (mkF m n l' st)) : Ends p e below s R n0 Q T (mkF m pc Ls (v :: st)) := by
  subst hn; exact E.via fun t k => XS.astoreN P.here P.hx rfl (hb P.code hd) rfl hv hl k
theorem astore (P : Pos p l e R s m args below meth c Z own nm bytes maxL ret n0 T h cells slots) {j : Nat} {v : Value} {l' : Array Slot} (hd : decode bytes pc = .ok (.astore j, 2)) (hv : v.isRef = true) (hl : storeLocals Ls j v = some l') (hn : n = pc + 2)
    (E : Ends p e below s R n0 Q T (mkF m n l' st)) : Ends p e below s R n0 Q T (mkF m pc Ls (v :: st)) := by
  subst hn; exact E.via fun t k => XS.astore P.here P.hx rfl (hb P.code hd) rfl hv hl k
theorem iconst (P : Pos p l e R s m args below meth c Z own nm bytes maxL ret n0 T h cells slots) {i : Int} (hd : decode bytes pc = .ok (.iconst i, 1)) {x : Int32} (hx : x = Int32.ofInt i) (hn : n = pc + 1)
    (E : Ends p e below s R n0 Q T (mkF m n Ls (.int x :: st))) : Ends p e below s R n0 Q T (mkF m pc Ls st) := by
  subst hn; exact E.via fun t k => XS.iconst P.here P.hx rfl (hb P.code hd) (by subst hx; exact k)
theorem bipush (P : Pos p l e R s m args below meth c Z own nm bytes maxL ret n0 T h cells slots) {i : Int} (hd : decode bytes pc = .ok (.bipush i, 2)) {x : Int32} (hx : x = (Int8.ofInt i).toInt32) (hn : n = pc + 2)
    (E : Ends p e below s R n0 Q T (mkF m n Ls (.int x :: st))) : Ends p e below s R n0 Q T (mkF m pc Ls st) := by
  subst hn; exact E.via fun t k => XS.bipush P.here P.hx rfl (hb P.code hd) (by subst hx; exact k)
theorem sipush (P : Pos p l e R s m args below meth c Z own nm bytes maxL ret n0 T h cells slots) {i : Int} (hd : decode bytes pc = .ok (.sipush i, 3)) {x : Int32} (hx : x = (Int16.ofInt i).toInt32) (hn : n = pc + 3)
    (E : Ends p e below s R n0 Q T (mkF m n Ls (.int x :: st))) : Ends p e below s R n0 Q T (mkF m pc Ls st) := by
  subst hn; exact E.via fun t k => XS.sipush P.here P.hx rfl (hb P.code hd) (by subst hx; exact k)
theorem lconst (P : Pos p l e R s m args below meth c Z own nm bytes maxL ret n0 T h cells slots) {i : Fin 2} (hd : decode bytes pc = .ok (.lconst i, 1)) {x : Int64} (hx : x = Int64.ofNat i) (hn : n = pc + 1)
    (E : Ends p e below s R n0 Q T (mkF m n Ls (.long x :: st))) : Ends p e below s R n0 Q T (mkF m pc Ls st) := by
  subst hn; exact E.via fun t k => XS.lconst P.here P.hx rfl (hb P.code hd) (by subst hx; exact k)
theorem aconstNull (P : Pos p l e R s m args below meth c Z own nm bytes maxL ret n0 T h cells slots) (hd : decode bytes pc = .ok (.aconst_null, 1)) (hn : n = pc + 1)
    (E : Ends p e below s R n0 Q T (mkF m n Ls (.null :: st))) : Ends p e below s R n0 Q T (mkF m pc Ls st) := by
  subst hn; exact E.via fun t k => XS.aconstNull P.here P.hx rfl (hb P.code hd) k
theorem iadd (P : Pos p l e R s m args below meth c Z own nm bytes maxL ret n0 T h cells slots) {x y : Int32} (hd : decode bytes pc = .ok (.iadd, 1)) (hn : n = pc + 1)
    (E : Ends p e below s R n0 Q T (mkF m n Ls (.int (x + y) :: st))) : Ends p e below s R n0 Q T (mkF m pc Ls (.int y :: .int x :: st)) := by
  subst hn; exact E.via fun t k => XS.iadd P.here P.hx rfl (hb P.code hd) rfl k
theorem isub (P : Pos p l e R s m args below meth c Z own nm bytes maxL ret n0 T h cells slots) {x y : Int32} (hd : decode bytes pc = .ok (.isub, 1)) (hn : n = pc + 1)
    (E : Ends p e below s R n0 Q T (mkF m n Ls (.int (x - y) :: st))) : Ends p e below s R n0 Q T (mkF m pc Ls (.int y :: .int x :: st)) := by
  subst hn; exact E.via fun t k => XS.isub P.here P.hx rfl (hb P.code hd) rfl k
theorem imul (P : Pos p l e R s m args below meth c Z own nm bytes maxL ret n0 T h cells slots) {x y : Int32} (hd : decode bytes pc = .ok (.imul, 1)) (hn : n = pc + 1)
    (E : Ends p e below s R n0 Q T (mkF m n Ls (.int (x * y) :: st))) : Ends p e below s R n0 Q T (mkF m pc Ls (.int y :: .int x :: st)) := by
  subst hn; exact E.via fun t k => XS.imul P.here P.hx rfl (hb P.code hd) rfl k
theorem iand (P : Pos p l e R s m args below meth c Z own nm bytes maxL ret n0 T h cells slots) {x y : Int32} (hd : decode bytes pc = .ok (.iand, 1)) (hn : n = pc + 1)
    (E : Ends p e below s R n0 Q T (mkF m n Ls (.int (x &&& y) :: st))) : Ends p e below s R n0 Q T (mkF m pc Ls (.int y :: .int x :: st)) := by
  subst hn; exact E.via fun t k => XS.iand P.here P.hx rfl (hb P.code hd) rfl k
theorem ior (P : Pos p l e R s m args below meth c Z own nm bytes maxL ret n0 T h cells slots) {x y : Int32} (hd : decode bytes pc = .ok (.ior, 1)) (hn : n = pc + 1)
    (E : Ends p e below s R n0 Q T (mkF m n Ls (.int (x ||| y) :: st))) : Ends p e below s R n0 Q T (mkF m pc Ls (.int y :: .int x :: st)) := by
  subst hn; exact E.via fun t k => XS.ior P.here P.hx rfl (hb P.code hd) rfl k
theorem ixor (P : Pos p l e R s m args below meth c Z own nm bytes maxL ret n0 T h cells slots) {x y : Int32} (hd : decode bytes pc = .ok (.ixor, 1)) (hn : n = pc + 1)
    (E : Ends p e below s R n0 Q T (mkF m n Ls (.int (x ^^^ y) :: st))) : Ends p e below s R n0 Q T (mkF m pc Ls (.int y :: .int x :: st)) := by
  subst hn; exact E.via fun t k => XS.ixor P.here P.hx rfl (hb P.code hd) rfl k
theorem ladd (P : Pos p l e R s m args below meth c Z own nm bytes maxL ret n0 T h cells slots) {x y : Int64} (hd : decode bytes pc = .ok (.ladd, 1)) (hn : n = pc + 1)
    (E : Ends p e below s R n0 Q T (mkF m n Ls (.long (x + y) :: st))) : Ends p e below s R n0 Q T (mkF m pc Ls (.long y :: .long x :: st)) := by
  subst hn; exact E.via fun t k => XS.ladd P.here P.hx rfl (hb P.code hd) rfl k
theorem lsub (P : Pos p l e R s m args below meth c Z own nm bytes maxL ret n0 T h cells slots) {x y : Int64} (hd : decode bytes pc = .ok (.lsub, 1)) (hn : n = pc + 1)
    (E : Ends p e below s R n0 Q T (mkF m n Ls (.long (x - y) :: st))) : Ends p e below s R n0 Q T (mkF m pc Ls (.long y :: .long x :: st)) := by
  subst hn; exact E.via fun t k => XS.lsub P.here P.hx rfl (hb P.code hd) rfl k
theorem lmul (P : Pos p l e R s m args below meth c Z own nm bytes maxL ret n0 T h cells slots) {x y : Int64} (hd : decode bytes pc = .ok (.lmul, 1)) (hn : n = pc + 1)
    (E : Ends p e below s R n0 Q T (mkF m n Ls (.long (x * y) :: st))) : Ends p e below s R n0 Q T (mkF m pc Ls (.long y :: .long x :: st)) := by
  subst hn; exact E.via fun t k => XS.lmul P.here P.hx rfl (hb P.code hd) rfl k
theorem land (P : Pos p l e R s m args below meth c Z own nm bytes maxL ret n0 T h cells slots) {x y : Int64} (hd : decode bytes pc = .ok (.land, 1)) (hn : n = pc + 1)
    (E : Ends p e below s R n0 Q T (mkF m n Ls (.long (x &&& y) :: st))) : Ends p e below s R n0 Q T (mkF m pc Ls (.long y :: .long x :: st)) := by
  subst hn; exact E.via fun t k => XS.land P.here P.hx rfl (hb P.code hd) rfl k
theorem lor (P : Pos p l e R s m args below meth c Z own nm bytes maxL ret n0 T h cells slots) {x y : Int64} (hd : decode bytes pc = .ok (.lor, 1)) (hn : n = pc + 1)
    (E : Ends p e below s R n0 Q T (mkF m n Ls (.long (x ||| y) :: st))) : Ends p e below s R n0 Q T (mkF m pc Ls (.long y :: .long x :: st)) := by
  subst hn; exact E.via fun t k => XS.lor P.here P.hx rfl (hb P.code hd) rfl k
theorem lxor (P : Pos p l e R s m args below meth c Z own nm bytes maxL ret n0 T h cells slots) {x y : Int64} (hd : decode bytes pc = .ok (.lxor, 1)) (hn : n = pc + 1)
    (E : Ends p e below s R n0 Q T (mkF m n Ls (.long (x ^^^ y) :: st))) : Ends p e below s R n0 Q T (mkF m pc Ls (.long y :: .long x :: st)) := by
  subst hn; exact E.via fun t k => XS.lxor P.here P.hx rfl (hb P.code hd) rfl k
theorem ishl (P : Pos p l e R s m args below meth c Z own nm bytes maxL ret n0 T h cells slots) {x y : Int32} (hd : decode bytes pc = .ok (.ishl, 1)) (hn : n = pc + 1)
    (E : Ends p e below s R n0 Q T (mkF m n Ls (.int (x <<< (y &&& 31)) :: st))) : Ends p e below s R n0 Q T (mkF m pc Ls (.int y :: .int x :: st)) := by
  subst hn; exact E.via fun t k => XS.ishl P.here P.hx rfl (hb P.code hd) rfl k
theorem ishr (P : Pos p l e R s m args below meth c Z own nm bytes maxL ret n0 T h cells slots) {x y : Int32} (hd : decode bytes pc = .ok (.ishr, 1)) (hn : n = pc + 1)
    (E : Ends p e below s R n0 Q T (mkF m n Ls (.int (x >>> (y &&& 31)) :: st))) : Ends p e below s R n0 Q T (mkF m pc Ls (.int y :: .int x :: st)) := by
  subst hn; exact E.via fun t k => XS.ishr P.here P.hx rfl (hb P.code hd) rfl k
theorem iushr (P : Pos p l e R s m args below meth c Z own nm bytes maxL ret n0 T h cells slots) {x y : Int32} (hd : decode bytes pc = .ok (.iushr, 1)) (hn : n = pc + 1)
    (E : Ends p e below s R n0 Q T (mkF m n Ls (.int ((x.toUInt32 >>> (y &&& 31).toUInt32).toInt32) :: st))) : Ends p e below s R n0 Q T (mkF m pc Ls (.int y :: .int x :: st)) := by
  subst hn; exact E.via fun t k => XS.iushr P.here P.hx rfl (hb P.code hd) rfl k
theorem lshl (P : Pos p l e R s m args below meth c Z own nm bytes maxL ret n0 T h cells slots) {x : Int64} {y : Int32} (hd : decode bytes pc = .ok (.lshl, 1)) (hn : n = pc + 1)
    (E : Ends p e below s R n0 Q T (mkF m n Ls (.long (x <<< (y &&& 0x3f).toInt64) :: st))) : Ends p e below s R n0 Q T (mkF m pc Ls (.int y :: .long x :: st)) := by
  subst hn; exact E.via fun t k => XS.lshl P.here P.hx rfl (hb P.code hd) rfl k
theorem lshr (P : Pos p l e R s m args below meth c Z own nm bytes maxL ret n0 T h cells slots) {x : Int64} {y : Int32} (hd : decode bytes pc = .ok (.lshr, 1)) (hn : n = pc + 1)
    (E : Ends p e below s R n0 Q T (mkF m n Ls (.long (x >>> (y &&& 0x3f).toInt64) :: st))) : Ends p e below s R n0 Q T (mkF m pc Ls (.int y :: .long x :: st)) := by
  subst hn; exact E.via fun t k => XS.lshr P.here P.hx rfl (hb P.code hd) rfl k
theorem lushr (P : Pos p l e R s m args below meth c Z own nm bytes maxL ret n0 T h cells slots) {x : Int64} {y : Int32} (hd : decode bytes pc = .ok (.lushr, 1)) (hn : n = pc + 1)
    (E : Ends p e below s R n0 Q T (mkF m n Ls (.long ((x.toUInt64 >>> (y &&& 0x3f).toInt64.toUInt64).toInt64) :: st))) : Ends p e below s R n0 Q T (mkF m pc Ls (.int y :: .long x :: st)) := by
  subst hn; exact E.via fun t k => XS.lushr P.here P.hx rfl (hb P.code hd) rfl k
theorem idiv (P : Pos p l e R s m args below meth c Z own nm bytes maxL ret n0 T h cells slots) {x y : Int32} (hd : decode bytes pc = .ok (.idiv, 1)) (hy : y ≠ 0) (hn : n = pc + 1)
    (E : Ends p e below s R n0 Q T (mkF m n Ls (.int (x / y) :: st))) : Ends p e below s R n0 Q T (mkF m pc Ls (.int y :: .int x :: st)) := by
  subst hn; exact E.via fun t k => XS.idiv P.here P.hx rfl (hb P.code hd) rfl hy k
theorem irem (P : Pos p l e R s m args below meth c Z own nm bytes maxL ret n0 T h cells slots) {x y : Int32} (hd : decode bytes pc = .ok (.irem, 1)) (hy : y ≠ 0) (hn : n = pc + 1)
    (E : Ends p e below s R n0 Q T (mkF m n Ls (.int (x % y) :: st))) : Ends p e below s R n0 Q T (mkF m pc Ls (.int y :: .int x :: st)) := by
  subst hn; obtain ⟨_, X, -⟩ := P.stand; exact E.via fun t k => Jvm.RoadKit.iremM X P.hx rfl (hb P.code hd) rfl hy k
theorem ldiv (P : Pos p l e R s m args below meth c Z own nm bytes maxL ret n0 T h cells slots) {x y : Int64} (hd : decode bytes pc = .ok (.ldiv, 1)) (hy : y ≠ 0) (hn : n = pc + 1)
    (E : Ends p e below s R n0 Q T (mkF m n Ls (.long (x / y) :: st))) : Ends p e below s R n0 Q T (mkF m pc Ls (.long y :: .long x :: st)) := by
  subst hn; exact E.via fun t k => XS.ldiv P.here P.hx rfl (hb P.code hd) rfl hy k
theorem lrem (P : Pos p l e R s m args below meth c Z own nm bytes maxL ret n0 T h cells slots) {x y : Int64} (hd : decode bytes pc = .ok (.lrem, 1)) (hy : y ≠ 0) (hn : n = pc + 1)
    (E : Ends p e below s R n0 Q T (mkF m n Ls (.long (x - (x / y) * y) :: st))) : Ends p e below s R n0 Q T (mkF m pc Ls (.long y :: .long x :: st)) := by
  subst hn; exact E.via fun t k => XS.lrem P.here P.hx rfl (hb P.code hd) rfl hy k
theorem ineg (P : Pos p l e R s m args below meth c Z own nm bytes maxL ret n0 T h cells slots) {x : Int32} (hd : decode bytes pc = .ok (.ineg, 1)) (hn : n = pc + 1)
    (E : Ends p e below s R n0 Q T (mkF m n Ls (.int (-x) :: st))) : Ends p e below s R n0 Q T (mkF m pc Ls (.int x :: st)) := by
  subst hn; exact E.via fun t k => XS.ineg P.here P.hx rfl (hb P.code hd) rfl k
theorem lneg (P : Pos p l e R s m args below meth c Z own nm bytes maxL ret n0 T h cells slots) {x : Int64} (hd : decode bytes pc = .ok (.lneg, 1)) (hn : n = pc + 1)
    (E : Ends p e below s R n0 Q T (mkF m n Ls (.long (-x) :: st))) : Ends p e below s R n0 Q T (mkF m pc Ls (.long x :: st)) := by
  subst hn; exact E.via fun t k => XS.lneg P.here P.hx rfl (hb P.code hd) rfl k
theorem i2l (P : Pos p l e R s m args below meth c Z own nm bytes maxL ret n0 T h cells slots) {x : Int32} (hd : decode bytes pc = .ok (.i2l, 1)) (hn : n = pc + 1)
    (E : Ends p e below s R n0 Q T (mkF m n Ls (.long (x.toInt64) :: st))) : Ends p e below s R n0 Q T (mkF m pc Ls (.int x :: st)) := by
  subst hn; exact E.via fun t k => XS.i2l P.here P.hx rfl (hb P.code hd) rfl k
theorem l2i (P : Pos p l e R s m args below meth c Z own nm bytes maxL ret n0 T h cells slots) {x : Int64} (hd : decode bytes pc = .ok (.l2i, 1)) (hn : n = pc + 1)
    (E : Ends p e below s R n0 Q T (mkF m n Ls (.int (x.toInt32) :: st))) : Ends p e below s R n0 Q T (mkF m pc Ls (.long x :: st)) := by
  subst hn; exact E.via fun t k => XS.l2i P.here P.hx rfl (hb P.code hd) rfl k
theorem i2b (P : Pos p l e R s m args below meth c Z own nm bytes maxL ret n0 T h cells slots) {x : Int32} (hd : decode bytes pc = .ok (.i2b, 1)) (hn : n = pc + 1)
    (E : Ends p e below s R n0 Q T (mkF m n Ls (.int (x.toInt8.toInt32) :: st))) : Ends p e below s R n0 Q T (mkF m pc Ls (.int x :: st)) := by
  subst hn; exact E.via fun t k => XS.i2b P.here P.hx rfl (hb P.code hd) rfl k
theorem i2s (P : Pos p l e R s m args below meth c Z own nm bytes maxL ret n0 T h cells slots) {x : Int32} (hd : decode bytes pc = .ok (.i2s, 1)) (hn : n = pc + 1)
    (E : Ends p e below s R n0 Q T (mkF m n Ls (.int (x.toInt16.toInt32) :: st))) : Ends p e below s R n0 Q T (mkF m pc Ls (.int x :: st)) := by
  subst hn; exact E.via fun t k => XS.i2s P.here P.hx rfl (hb P.code hd) rfl k
theorem i2c (P : Pos p l e R s m args below meth c Z own nm bytes maxL ret n0 T h cells slots) {x : Int32} (hd : decode bytes pc = .ok (.i2c, 1)) (hn : n = pc + 1)
    (E : Ends p e below s R n0 Q T (mkF m n Ls (.int (x.toUInt32.toUInt16.toUInt32.toInt32) :: st))) : Ends p e below s R n0 Q T (mkF m pc Ls (.int x :: st)) := by
  subst hn; exact E.via fun t k => XS.i2c P.here P.hx rfl (hb P.code hd) rfl k
theorem lcmp (P : Pos p l e R s m args below meth c Z own nm bytes maxL ret n0 T h cells slots) {x y : Int64} (hd : decode bytes pc = .ok (.lcmp, 1)) (hn : n = pc + 1)
    (E : Ends p e below s R n0 Q T (mkF m n Ls (.int (lcmpW x y) :: st))) : Ends p e below s R n0 Q T (mkF m pc Ls (.long y :: .long x :: st)) := by
  subst hn; exact E.via fun t k => XS.lcmp P.here P.hx rfl (hb P.code hd) rfl k
theorem iinc (P : Pos p l e R s m args below meth c Z own nm bytes maxL ret n0 T h cells slots) {j : Nat} {cst : Int} {x : Int32} {l' : Array Slot} (hd : decode bytes pc = .ok (.iinc j cst, 3)) {y : Int32} (hl : Ls[j]? = some (.val (.int x))) (hy : y = Int32.ofInt cst) (hl' : storeLocals Ls j (.int (x + Int32.ofInt cst)) = some l') (hn : n = pc + 3)
    (E : Ends p e below s R n0 Q T (mkF m n l' st)) : Ends p e below s R n0 Q T (mkF m pc Ls st) := by
  subst hn; exact E.via fun t k => XS.iinc P.here P.hx rfl (hb P.code hd) hl hl' k
theorem dup (P : Pos p l e R s m args below meth c Z own nm bytes maxL ret n0 T h cells slots) {x : Value} (hd : decode bytes pc = .ok (.dup, 1)) (hc : x.category = 1) (hn : n = pc + 1)
    (E : Ends p e below s R n0 Q T (mkF m n Ls (x :: x :: st))) : Ends p e below s R n0 Q T (mkF m pc Ls (x :: st)) := by
  subst hn; exact E.via fun t k => XS.dup P.here P.hx rfl (hb P.code hd) rfl hc k
theorem dupX1 (P : Pos p l e R s m args below meth c Z own nm bytes maxL ret n0 T h cells slots) {x y : Value} (hd : decode bytes pc = .ok (.dup_x1, 1)) (hc : x.category = 1) (hc' : y.category = 1) (hn : n = pc + 1)
    (E : Ends p e below s R n0 Q T (mkF m n Ls (x :: y :: x :: st))) : Ends p e below s R n0 Q T (mkF m pc Ls (x :: y :: st)) := by
  subst hn; exact E.via fun t k => XS.dupX1 P.here P.hx rfl (hb P.code hd) rfl hc hc' k
theorem pop (P : Pos p l e R s m args below meth c Z own nm bytes maxL ret n0 T h cells slots) {x : Value} (hd : decode bytes pc = .ok (.pop, 1)) (hc : x.category = 1) (hn : n = pc + 1)
    (E : Ends p e below s R n0 Q T (mkF m n Ls st)) : Ends p e below s R n0 Q T (mkF m pc Ls (x :: st)) := by
  subst hn; exact E.via fun t k => XS.pop P.here P.hx rfl (hb P.code hd) rfl hc k
theorem goto {o : Int} (P : Pos p l e R s m args below meth c Z own nm bytes maxL ret n0 T h cells slots) (hd : decode bytes pc = .ok (.goto o, 3)) (ho : 0 ≤ (pc : Int) + o ∧ ((pc : Int) + o).toNat = n) (E : Ends p e below s R n0 Q T (mkF m n Ls st)) : Ends p e below s R n0 Q T (mkF m pc Ls st) :=
  E.via fun t k => XS.goto P.here P.hx rfl (pc0 := pc) (pc' := n) rfl (hb P.code hd) ho.1 ho.2 k
theorem icmpB {cd : ClassFile.Cond} {o : Int} {x y : Int32} {n' : Nat} (P : Pos p l e R s m args below meth c Z own nm bytes maxL ret n0 T h cells slots) (hd : decode bytes pc = .ok (.if_icmp cd o, 3)) (ho : 0 ≤ (pc : Int) + o ∧ ((pc : Int) + o).toNat = n') (hn : n = pc + 3)
    (Et : if_icmp.holds cd x y = true → Ends p e below s R n0 Q T (mkF m n' Ls st)) (Ef : if_icmp.holds cd x y = false → Ends p e below s R n0 Q T (mkF m n Ls st)) : Ends p e below s R n0 Q T (mkF m pc Ls (.int y :: .int x :: st)) := by
  subst hn
  cases hq : if_icmp.holds cd x y with
  | true => exact (Et hq).via fun t k => XS.icmpYes P.here P.hx rfl (pc0 := pc) (pc' := n') rfl (hb P.code hd) rfl hq ho.1 ho.2 k
  | false => exact (Ef hq).via fun t k => XS.icmpNo P.here P.hx rfl (hb P.code hd) rfl hq k
theorem ifB {cd : ClassFile.Cond} {o : Int} {x : Int32} {n' : Nat} (P : Pos p l e R s m args below meth c Z own nm bytes maxL ret n0 T h cells slots) (hd : decode bytes pc = .ok (.ifCond cd o, 3)) (ho : 0 ≤ (pc : Int) + o ∧ ((pc : Int) + o).toNat = n') (hn : n = pc + 3)
    (Et : ifCond.holds cd x = true → Ends p e below s R n0 Q T (mkF m n' Ls st)) (Ef : ifCond.holds cd x = false → Ends p e below s R n0 Q T (mkF m n Ls st)) : Ends p e below s R n0 Q T (mkF m pc Ls (.int x :: st)) := by
  subst hn
  cases hq : ifCond.holds cd x with
  | true => exact (Et hq).via fun t k => XS.ifYes P.here P.hx rfl (pc0 := pc) (pc' := n') rfl (hb P.code hd) rfl hq ho.1 ho.2 k
  | false => exact (Ef hq).via fun t k => XS.ifNo P.here P.hx rfl (hb P.code hd) rfl hq k
theorem acmpB {cd : ACond} {o : Int} {x y : Value} {n' : Nat} (P : Pos p l e R s m args below meth c Z own nm bytes maxL ret n0 T h cells slots) (hd : decode bytes pc = .ok (.if_acmp cd o, 3)) (h1 : x.isRef = true) (h2 : y.isRef = true) (ho : 0 ≤ (pc : Int) + o ∧ ((pc : Int) + o).toNat = n') (hn : n = pc + 3)
    (Et : acV cd (decide (x = y)) = true → Ends p e below s R n0 Q T (mkF m n' Ls st)) (Ef : acV cd (decide (x = y)) = false → Ends p e below s R n0 Q T (mkF m n Ls st)) : Ends p e below s R n0 Q T (mkF m pc Ls (y :: x :: st)) := by
  subst hn
  obtain ⟨_, X, -⟩ := P.stand
  cases hq : acV cd (decide (x = y)) with
  | true => exact (Et hq).via fun t k => Jvm.RoadKit.acmp (g := mkF m pc Ls (y :: x :: st)) X P.hx rfl h1 h2 (pc0 := pc) (pc' := n') (same := decide (x = y)) rfl (hb P.code hd) rfl rfl ho.1 (by rw [hq]; simp [ho.2]) k
  | false => exact (Ef hq).via fun t k => Jvm.RoadKit.acmp (g := mkF m pc Ls (y :: x :: st)) X P.hx rfl h1 h2 (pc0 := pc) (pc' := pc + 3) (same := decide (x = y)) rfl (hb P.code hd) rfl rfl ho.1 (by rw [hq]; simp) k
/-! what the conditions say, in numbers -/
def cP (cd : ClassFile.Cond) (x y : Int) : Prop := match cd with | .eq => x = y | .ne => ¬ x = y | .lt => x < y | .ge => y ≤ x | .gt => y < x | .le => x ≤ y
theorem ii {cd : ClassFile.Cond} {x y : Int32} {b : Bool} (q : if_icmp.holds cd x y = b) : cP cd x.toInt y.toInt ↔ b = true := by
  subst q; cases cd <;> simp [cP, if_icmp.holds, Int32.lt_iff_toInt_lt, Int32.le_iff_toInt_le, Int32.toInt_inj]
theorem i0 {cd : ClassFile.Cond} {x : Int32} {b : Bool} (q : ifCond.holds cd x = b) : cP cd x.toInt 0 ↔ b = true := ii ((if0 cd x).symm.trans q)
theorem l0 {cd : ClassFile.Cond} {x y : Int64} {b : Bool} (q : ifCond.holds cd (lcmpW x y) = b) : cP cd x.toInt y.toInt ↔ b = true := by
  have h1 := i0 q
  obtain ⟨c1, c2, c3⟩ := c_lcmp x y
  rw [← h1]
  cases cd <;> simp only [cP] <;> (rcases Int.lt_trichotomy x.toInt y.toInt with g | g | g) <;> first | (have := c1 g; omega) | (have := c2 g; omega) | (have := c3 g; omega)
theorem icmp_eq {o : Int} {x y : Int32} {n' : Nat} (P : Pos p l e R s m args below meth c Z own nm bytes maxL ret n0 T h cells slots) (hd : decode bytes pc = .ok (.if_icmp .eq o, 3)) (ho : 0 ≤ (pc : Int) + o ∧ ((pc : Int) + o).toNat = n') (hn : n = pc + 3)
    (Et : x.toInt = y.toInt → Ends p e below s R n0 Q T (mkF m n' Ls st)) (Ef : ¬ x.toInt = y.toInt → Ends p e below s R n0 Q T (mkF m n Ls st)) : Ends p e below s R n0 Q T (mkF m pc Ls (.int y :: .int x :: st)) :=
  icmpB P hd ho hn (fun q => Et (by have := ii q; simp only [cP, iff_true] at this; exact this)) (fun q => Ef (by have := ii q; simp only [cP, Bool.false_eq_true, iff_false] at this; omega))
theorem if0_eq {o : Int} {x : Int32} {n' : Nat} (P : Pos p l e R s m args below meth c Z own nm bytes maxL ret n0 T h cells slots) (hd : decode bytes pc = .ok (.ifCond .eq o, 3)) (ho : 0 ≤ (pc : Int) + o ∧ ((pc : Int) + o).toNat = n') (hn : n = pc + 3)
    (Et : x.toInt = 0 → Ends p e below s R n0 Q T (mkF m n' Ls st)) (Ef : ¬ x.toInt = 0 → Ends p e below s R n0 Q T (mkF m n Ls st)) : Ends p e below s R n0 Q T (mkF m pc Ls (.int x :: st)) :=
  ifB P hd ho hn (fun q => Et (by have := i0 q; simp only [cP, iff_true] at this; exact this)) (fun q => Ef (by have := i0 q; simp only [cP, Bool.false_eq_true, iff_false] at this; omega))
theorem ifl_eq {o : Int} {x y : Int64} {n' : Nat} (P : Pos p l e R s m args below meth c Z own nm bytes maxL ret n0 T h cells slots) (hd : decode bytes pc = .ok (.ifCond .eq o, 3)) (ho : 0 ≤ (pc : Int) + o ∧ ((pc : Int) + o).toNat = n') (hn : n = pc + 3)
    (Et : x.toInt = y.toInt → Ends p e below s R n0 Q T (mkF m n' Ls st)) (Ef : ¬ x.toInt = y.toInt → Ends p e below s R n0 Q T (mkF m n Ls st)) : Ends p e below s R n0 Q T (mkF m pc Ls (.int (lcmpW x y) :: st)) :=
  ifB P hd ho hn (fun q => Et (by have := l0 q; simp only [cP, iff_true] at this; exact this)) (fun q => Ef (by have := l0 q; simp only [cP, Bool.false_eq_true, iff_false] at this; omega))
theorem icmp_ne {o : Int} {x y : Int32} {n' : Nat} (P : Pos p l e R s m args below meth c Z own nm bytes maxL ret n0 T h cells slots) (hd : decode bytes pc = .ok (.if_icmp .ne o, 3)) (ho : 0 ≤ (pc : Int) + o ∧ ((pc : Int) + o).toNat = n') (hn : n = pc + 3)
    (Et : ¬ x.toInt = y.toInt → Ends p e below s R n0 Q T (mkF m n' Ls st)) (Ef : x.toInt = y.toInt → Ends p e below s R n0 Q T (mkF m n Ls st)) : Ends p e below s R n0 Q T (mkF m pc Ls (.int y :: .int x :: st)) :=
  icmpB P hd ho hn (fun q => Et (by have := ii q; simp only [cP, iff_true] at this; exact this)) (fun q => Ef (by have := ii q; simp only [cP, Bool.false_eq_true, iff_false] at this; omega))
theorem if0_ne {o : Int} {x : Int32} {n' : Nat} (P : Pos p l e R s m args below meth c Z own nm bytes maxL ret n0 T h cells slots) (hd : decode bytes pc = .ok (.ifCond .ne o, 3)) (ho : 0 ≤ (pc : Int) + o ∧ ((pc : Int) + o).toNat = n') (hn : n = pc + 3)
    (Et : ¬ x.toInt = 0 → Ends p e below s R n0 Q T (mkF m n' Ls st)) (Ef : x.toInt = 0 → Ends p e below s R n0 Q T (mkF m n Ls st)) : Ends p e below s R n0 Q T (mkF m pc Ls (.int x :: st)) :=
  ifB P hd ho hn (fun q => Et (by have := i0 q; simp only [cP, iff_true] at this; exact this)) (fun q => Ef (by have := i0 q; simp only [cP, Bool.false_eq_true, iff_false] at this; omega))
theorem ifl_ne {o : Int} {x y : Int64} {n' : Nat} (P : Pos p l e R s m args below meth c Z own nm bytes maxL ret n0 T h cells slots) (hd : decode bytes pc = .ok (.ifCond .ne o, 3)) (ho : 0 ≤ (pc : Int) + o ∧ ((pc : Int) + o).toNat = n') (hn : n = pc + 3)
    (Et : ¬ x.toInt = y.toInt → Ends p e below s R n0 Q T (mkF m n' Ls st)) (Ef : x.toInt = y.toInt → Ends p e below s R n0 Q T (mkF m n Ls st)) : Ends p e below s R n0 Q T (mkF m pc Ls (.int (lcmpW x y) :: st)) :=
  ifB P hd ho hn (fun q => Et (by have := l0 q; simp only [cP, iff_true] at this; exact this)) (fun q => Ef (by have := l0 q; simp only [cP, Bool.false_eq_true, iff_false] at this; omega))
theorem icmp_lt {o : Int} {x y : Int32} {n' : Nat} (P : Pos p l e R s m args below meth c Z own nm bytes maxL ret n0 T h cells slots) (hd : decode bytes pc = .ok (.if_icmp .lt o, 3)) (ho : 0 ≤ (pc : Int) + o ∧ ((pc : Int) + o).toNat = n') (hn : n = pc + 3)
    (Et : x.toInt < y.toInt → Ends p e below s R n0 Q T (mkF m n' Ls st)) (Ef : y.toInt ≤ x.toInt → Ends p e below s R n0 Q T (mkF m n Ls st)) : Ends p e below s R n0 Q T (mkF m pc Ls (.int y :: .int x :: st)) :=
  icmpB P hd ho hn (fun q => Et (by have := ii q; simp only [cP, iff_true] at this; exact this)) (fun q => Ef (by have := ii q; simp only [cP, Bool.false_eq_true, iff_false] at this; omega))
theorem if0_lt {o : Int} {x : Int32} {n' : Nat} (P : Pos p l e R s m args below meth c Z own nm bytes maxL ret n0 T h cells slots) (hd : decode bytes pc = .ok (.ifCond .lt o, 3)) (ho : 0 ≤ (pc : Int) + o ∧ ((pc : Int) + o).toNat = n') (hn : n = pc + 3)
    (Et : x.toInt < 0 → Ends p e below s R n0 Q T (mkF m n' Ls st)) (Ef : 0 ≤ x.toInt → Ends p e below s R n0 Q T (mkF m n Ls st)) : Ends p e below s R n0 Q T (mkF m pc Ls (.int x :: st)) :=
  ifB P hd ho hn (fun q => Et (by have := i0 q; simp only [cP, iff_true] at this; exact this)) (fun q => Ef (by have := i0 q; simp only [cP, Bool.false_eq_true, iff_false] at this; omega))
theorem ifl_lt {o : Int} {x y : Int64} {n' : Nat} (P : Pos p l e R s m args below meth c Z own nm bytes maxL ret n0 T h cells slots) (hd : decode bytes pc = .ok (.ifCond .lt o, 3)) (ho : 0 ≤ (pc : Int) + o ∧ ((pc : Int) + o).toNat = n') (hn : n = pc + 3)
    (Et : x.toInt < y.toInt → Ends p e below s R n0 Q T (mkF m n' Ls st)) (Ef : y.toInt ≤ x.toInt → Ends p e below s R n0 Q T (mkF m n Ls st)) : Ends p e below s R n0 Q T (mkF m pc Ls (.int (lcmpW x y) :: st)) :=
  ifB P hd ho hn (fun q => Et (by have := l0 q; simp only [cP, iff_true] at this; exact this)) (fun q => Ef (by have := l0 q; simp only [cP, Bool.false_eq_true, iff_false] at this; omega))
theorem icmp_ge {o : Int} {x y : Int32} {n' : Nat} (P : Pos p l e R s m args below meth c Z own nm bytes maxL ret n0 T h cells slots) (hd : decode bytes pc = .ok (.if_icmp .ge o, 3)) (ho : 0 ≤ (pc : Int) + o ∧ ((pc : Int) + o).toNat = n') (hn : n = pc + 3)
    (Et : y.toInt ≤ x.toInt → Ends p e below s R n0 Q T (mkF m n' Ls st)) (Ef : x.toInt < y.toInt → Ends p e below s R n0 Q T (mkF m n Ls st)) : Ends p e below s R n0 Q T (mkF m pc Ls (.int y :: .int x :: st)) :=
  icmpB P hd ho hn (fun q => Et (by have := ii q; simp only [cP, iff_true] at this; exact this)) (fun q => Ef (by have := ii q; simp only [cP, Bool.false_eq_true, iff_false] at this; omega))
theorem if0_ge {o : Int} {x : Int32} {n' : Nat} (P : Pos p l e R s m args below meth c Z own nm bytes maxL ret n0 T h cells slots) (hd : decode bytes pc = .ok (.ifCond .ge o, 3)) (ho : 0 ≤ (pc : Int) + o ∧ ((pc : Int) + o).toNat = n') (hn : n = pc + 3)
    (Et : 0 ≤ x.toInt → Ends p e below s R n0 Q T (mkF m n' Ls st)) (Ef : x.toInt < 0 → Ends p e below s R n0 Q T (mkF m n Ls st)) : Ends p e below s R n0 Q T (mkF m pc Ls (.int x :: st)) :=
  ifB P hd ho hn (fun q => Et (by have := i0 q; simp only [cP, iff_true] at this; exact this)) (fun q => Ef (by have := i0 q; simp only [cP, Bool.false_eq_true, iff_false] at this; omega))
theorem ifl_ge {o : Int} {x y : Int64} {n' : Nat} (P : Pos p l e R s m args below meth c Z own nm bytes maxL ret n0 T h cells slots) (hd : decode bytes pc = .ok (.ifCond .ge o, 3)) (ho : 0 ≤ (pc : Int) + o ∧ ((pc : Int) + o).toNat = n') (hn : n = pc + 3)
    (Et : y.toInt ≤ x.toInt → Ends p e below s R n0 Q T (mkF m n' Ls st)) (Ef : x.toInt < y.toInt → Ends p e below s R n0 Q T (mkF m n Ls st)) : Ends p e below s R n0 Q T (mkF m pc Ls (.int (lcmpW x y) :: st)) :=
  ifB P hd ho hn (fun q => Et (by have := l0 q; simp only [cP, iff_true] at this; exact this)) (fun q => Ef (by have := l0 q; simp only [cP, Bool.false_eq_true, iff_false] at this; omega))
theorem icmp_gt {o : Int} {x y : Int32} {n' : Nat} (P : Pos p l e R s m args below meth c Z own nm bytes maxL ret n0 T h cells slots) (hd : decode bytes pc = .ok (.if_icmp .gt o, 3)) (ho : 0 ≤ (pc : Int) + o ∧ ((pc : Int) + o).toNat = n') (hn : n = pc + 3)
    (Et : y.toInt < x.toInt → Ends p e below s R n0 Q T (mkF m n' Ls st)) (Ef : x.toInt ≤ y.toInt → Ends p e below s R n0 Q T (mkF m n Ls st)) : Ends p e below s R n0 Q T (mkF m pc Ls (.int y :: .int x :: st)) :=
  icmpB P hd ho hn (fun q => Et (by have := ii q; simp only [cP, iff_true] at this; exact this)) (fun q => Ef (by have := ii q; simp only [cP, Bool.false_eq_true, iff_false] at this; omega))
theorem if0_gt {o : Int} {x : Int32} {n' : Nat} (P : Pos p l e R s m args below meth c Z own nm bytes maxL ret n0 T h cells slots) (hd : decode bytes pc = .ok (.ifCond .gt o, 3)) (ho : 0 ≤ (pc : Int) + o ∧ ((pc : Int) + o).toNat = n') (hn : n = pc + 3)
    (Et : 0 < x.toInt → Ends p e below s R n0 Q T (mkF m n' Ls st)) (Ef : x.toInt ≤ 0 → Ends p e below s R n0 Q T (mkF m n Ls st)) : Ends p e below s R n0 Q T (mkF m pc Ls (.int x :: st)) :=
  ifB P hd ho hn (fun q => Et (by have := i0 q; simp only [cP, iff_true] at this; exact this)) (fun q => Ef (by have := i0 q; simp only [cP, Bool.false_eq_true, iff_false] at this; omega))
theorem ifl_gt {o : Int} {x y : Int64} {n' : Nat} (P : Pos p l e R s m args below meth c Z own nm bytes maxL ret n0 T h cells slots) (hd : decode bytes pc = .ok (.ifCond .gt o, 3)) (ho : 0 ≤ (pc : Int) + o ∧ ((pc : Int) + o).toNat = n') (hn : n = pc + 3)
    (Et : y.toInt < x.toInt → Ends p e below s R n0 Q T (mkF m n' Ls st)) (Ef : x.toInt ≤ y.toInt → Ends p e below s R n0 Q T (mkF m n Ls st)) : Ends p e below s R n0 Q T (mkF m pc Ls (.int (lcmpW x y) :: st)) :=
  ifB P hd ho hn (fun q => Et (by have := l0 q; simp only [cP, iff_true] at this; exact this)) (fun q => Ef (by have := l0 q; simp only [cP, Bool.false_eq_true, iff_false] at this; omega))
theorem icmp_le {o : Int} {x y : Int32} {n' : Nat} (P : Pos p l e R s m args below meth c Z own nm bytes maxL ret n0 T h cells slots) (hd : decode bytes pc = .ok (.if_icmp .le o, 3)) (ho : 0 ≤ (pc : Int) + o ∧ ((pc : Int) + o).toNat = n') (hn : n = pc + 3)
    (Et : x.toInt ≤ y.toInt → Ends p e below s R n0 Q T (mkF m n' Ls st)) (Ef : y.toInt < x.toInt → Ends p e below s R n0 Q T (mkF m n Ls st)) : Ends p e below s R n0 Q T (mkF m pc Ls (.int y :: .int x :: st)) :=
  icmpB P hd ho hn (fun q => Et (by have := ii q; simp only [cP, iff_true] at this; exact this)) (fun q => Ef (by have := ii q; simp only [cP, Bool.false_eq_true, iff_false] at this; omega))
theorem if0_le {o : Int} {x : Int32} {n' : Nat} (P : Pos p l e R s m args below meth c Z own nm bytes maxL ret n0 T h cells slots) (hd : decode bytes pc = .ok (.ifCond .le o, 3)) (ho : 0 ≤ (pc : Int) + o ∧ ((pc : Int) + o).toNat = n') (hn : n = pc + 3)
    (Et : x.toInt ≤ 0 → Ends p e below s R n0 Q T (mkF m n' Ls st)) (Ef : 0 < x.toInt → Ends p e below s R n0 Q T (mkF m n Ls st)) : Ends p e below s R n0 Q T (mkF m pc Ls (.int x :: st)) :=
  ifB P hd ho hn (fun q => Et (by have := i0 q; simp only [cP, iff_true] at this; exact this)) (fun q => Ef (by have := i0 q; simp only [cP, Bool.false_eq_true, iff_false] at this; omega))
theorem ifl_le {o : Int} {x y : Int64} {n' : Nat} (P : Pos p l e R s m args below meth c Z own nm bytes maxL ret n0 T h cells slots) (hd : decode bytes pc = .ok (.ifCond .le o, 3)) (ho : 0 ≤ (pc : Int) + o ∧ ((pc : Int) + o).toNat = n') (hn : n = pc + 3)
    (Et : x.toInt ≤ y.toInt → Ends p e below s R n0 Q T (mkF m n' Ls st)) (Ef : y.toInt < x.toInt → Ends p e below s R n0 Q T (mkF m n Ls st)) : Ends p e below s R n0 Q T (mkF m pc Ls (.int (lcmpW x y) :: st)) :=
  ifB P hd ho hn (fun q => Et (by have := l0 q; simp only [cP, iff_true] at this; exact this)) (fun q => Ef (by have := l0 q; simp only [cP, Bool.false_eq_true, iff_false] at this; omega))
theorem aT {x y : Value} (q : acV .eq (decide (x = y)) = true) : x = y := by simpa [acV] using q
theorem aF {x y : Value} (q : acV .eq (decide (x = y)) = false) : ¬ x = y := by simpa [acV] using q
theorem nT {x y : Value} (q : acV .ne (decide (x = y)) = true) : ¬ x = y := by simpa [acV] using q
theorem nF {x y : Value} (q : acV .ne (decide (x = y)) = false) : x = y := by simpa [acV] using q
/-! constants, statics, fields, objects -/
theorem ldcI {index : Nat} {v : Int32} (P : Pos p l e R s m args below meth c Z own nm bytes maxL ret n0 T h cells slots) (hd : decode bytes pc = .ok (.ldc index, 2)) (w : (Cond.constant own index v).before a0 Z = true) (hn : n = pc + 2) (E : Ends p e below s R n0 Q T (mkF m n Ls (.int v :: st))) : Ends p e below s R n0 Q T (mkF m pc Ls st) := by
  subst hn; obtain ⟨_, X, -⟩ := P.stand
  exact E.via fun t k => X.ldcInt P.hx P.own' (mvT P.hZ w) (g := mkF m pc Ls st) rfl (hb P.code hd) t k
theorem ldc2J {index : Nat} {v : Int64} (P : Pos p l e R s m args below meth c Z own nm bytes maxL ret n0 T h cells slots) (hd : decode bytes pc = .ok (.ldc2_w index, 3)) (w : (Cond.constantLong own index v).before a0 Z = true) (hn : n = pc + 3) (E : Ends p e below s R n0 Q T (mkF m n Ls (.long v :: st))) : Ends p e below s R n0 Q T (mkF m pc Ls st) := by
  subst hn; obtain ⟨_, X, -⟩ := P.stand
  exact E.via fun t k => X.ldc2Long P.hx P.own' (mvT P.hZ w) (g := mkF m pc Ls st) rfl (hb P.code hd) t k
theorem getS {index : Nat} {O f d : String} {v : Value} (P : Pos p l e R s m args below meth c Z own nm bytes maxL ret n0 T h cells slots) (hd : decode bytes pc = .ok (.getstatic index, 3)) (w : (Cond.fieldLink own index O f d).before a0 Z = true) (F : Sta Z h O f d v) (hn : n = pc + 3)
    (E : ∀ T, Pos p l e R s m args below meth c Z own nm bytes maxL ret n0 T h cells slots → Ends p e below s R n0 Q T (mkF m n Ls (v :: st))) : Ends p e below s R n0 Q T (mkF m pc Ls st) := by
  subst hn; obtain ⟨_, X, N⟩ := P.stand
  obtain ⟨T', X', e', k⟩ := Jvm.RoadKit.getS (host := "") X P.hx P.hZ P.own' w Via.refl P.heap F (g := mkF m pc Ls st) rfl (hb P.code hd)
  exact (E T' (P.to X' N e')).via k
theorem getF {index : Nat} {O f d : String} {v : Value} {a : Addr} (P : Pos p l e R s m args below meth c Z own nm bytes maxL ret n0 T h cells slots) (hd : decode bytes pc = .ok (.getfield index, 3)) (w : (Cond.fieldLink own index O f d).before a0 Z = true) (F : Fld Z h a O f d v) (hn : n = pc + 3)
    (E : ∀ T, Pos p l e R s m args below meth c Z own nm bytes maxL ret n0 T h cells slots → Ends p e below s R n0 Q T (mkF m n Ls (v :: st))) : Ends p e below s R n0 Q T (mkF m pc Ls (.ref a :: st)) := by
  subst hn; obtain ⟨_, X, N⟩ := P.stand
  obtain ⟨T', X', e', k⟩ := Jvm.RoadKit.getF (host := "") X P.hx P.hZ P.own' (Or.inl w) Via.refl P.heap F (g := mkF m pc Ls (.ref a :: st)) rfl rfl (hb P.code hd)
  exact (E T' (P.to X' N e')).via k
theorem putF {index kk : Nat} {O f d C : String} {v old : Value} {a : Addr} {ty : FieldType} (P : Pos p l e R s m args below meth c Z own nm bytes maxL ret n0 T h cells slots) (hd : decode bytes pc = .ok (.putfield index, 3)) (w : (Cond.fieldLink own index O f d).before a0 Z = true) (F : Fld Z h a O f d old) (X0 : Exa Z h a C)
    (L : (Cond.lays C O f d).before a0 Z = true ∨ ((Cond.laysFinal C O f d).before a0 Z = true ∧ own = O ∧ nm = "<init>")) (wi : (Cond.instantiable C kk).before a0 Z = true) (hty : parseFieldDescriptor d = some ty) (hnw : narrow ty v = v) (hf : fits ty v = true) (ha : n0 ≤ a) (hn : n = pc + 3)
    (E : ∀ T h', Pos p l e R s m args below meth c Z own nm bytes maxL ret n0 T h' cells slots → Wr h h' a (Jvm.RoadKit.slotOf Z O f d) v → Ends p e below s R n0 Q T (mkF m n Ls st)) : Ends p e below s R n0 Q T (mkF m pc Ls (v :: .ref a :: st)) := by
  subst hn; obtain ⟨_, X, N⟩ := P.stand
  obtain ⟨T', h', X', e', W, k⟩ := Jvm.RoadKit.putF (host := "") X P.hx P.hZ P.own' (Or.inl w) Via.refl P.heap F X0 (L.imp id fun q => ⟨q.1, q.2.1, P.name.trans q.2.2⟩) wi hty hnw hf (g := mkF m pc Ls (v :: .ref a :: st)) rfl rfl (hb P.code hd)
  exact (E T' h' (P.to X' (Fr.snoc X' N ha) e') W).via k
theorem newO {index k : Nat} {C : String} (P : Pos p l e R s m args below meth c Z own nm bytes maxL ret n0 T h cells slots) (hd : decode bytes pc = .ok (.new index, 3)) (w : (Cond.classLink own index C).before a0 Z = true) (wi : (Cond.instantiable C k).before a0 Z = true) (wz : (Cond.initialized C).before a0 Z = true) (hc : cells + 1 ≤ R.cells) (hl : slots + k ≤ R.slots) (hn : n = pc + 3)
    (E : ∀ T h' a, Pos p l e R s m args below meth c Z own nm bytes maxL ret n0 T h' (cells + 1) (slots + k) → Ext h h' → a = h.size → n0 ≤ a → Exa Z h' a C → (∀ {O f d : String} {ty : FieldType}, Laid Z a0 C O f d → parseFieldDescriptor d = some ty → Fld Z h' a O f d (defaultValue ty)) → Ends p e below s R n0 Q T (mkF m n Ls (.ref a :: st))) : Ends p e below s R n0 Q T (mkF m pc Ls st) := by
  subst hn; obtain ⟨_, X, N⟩ := P.stand
  obtain ⟨T', h', X', e', Ex, A, D, -, kk⟩ := Jvm.RoadKit.newO X P.hx P.hZ P.own' w wi wz P.heap (g := mkF m pc Ls st) rfl (hb P.code hd) hc hl
  exact (E T' h' _ (P.to X' N e') Ex rfl P.low A D).via kk
theorem initO {index : Nat} {a : Addr} (P : Pos p l e R s m args below meth c Z own nm bytes maxL ret n0 T h cells slots) (hd : decode bytes pc = .ok (.invokespecial index, 3)) (w1 : (Cond.methodLink own index Lib.objectInit).before a0 Z = true) (w2 : (Cond.instanceMethod Lib.objectInit).before a0 Z = true) (w3 : (Cond.code Lib.objectInit ⟨#[0xb1]⟩ 1 none).before a0 Z = true) (hsz : Ls.size = maxL)
    (hf : 1 ≤ R.frames) (hl : (st.map fun v => v.category).sum + 12 ≤ R.locals) (hn : n = pc + 3) (E : ∀ T, Pos p l e R s m args below meth c Z own nm bytes maxL ret n0 T h cells slots → Ends p e below s R n0 Q T (mkF m n Ls st)) : Ends p e below s R n0 Q T (mkF m pc Ls (.ref a :: st)) := by
  subst hn; obtain ⟨_, X, N⟩ := P.stand
  obtain ⟨T', X', e', k⟩ := Jvm.RoadKit.initO X P.hx P.hZ P.own' w1 w2 w3 P.heap (g := mkF m pc Ls (.ref a :: st)) rfl (hsz.trans P.maxl.symm) rfl (hb P.code hd) hf (W := (st.map fun v => v.category).sum) (by show 2 * 0 + _ ≤ _; omega) hl
  exact (E T' (P.to X' N e')).via k
/-! arrays: a length and what each place holds -/
def AR (Z : State) (h : Heap) (a : Addr) (ty : FieldType) (k : Nat) (f : Nat → Value) : Prop := ∃ cl : Cell, Arr Z h a cl ty ∧ cl.slots.size = k ∧ k < 2 ^ 31 ∧ ∀ i, i < k → cl.slots[i]? = some (f i)
/-- one place changed -/
def ovr {α : Type} (g : Nat → α) (i : Nat) (x : α) : Nat → α := fun j => if j = i then x else g j
theorem ovr_at {α : Type} (g : Nat → α) (i : Nat) (x : α) : ovr g i x i = x := by simp [ovr]
theorem ovr_ne {α : Type} (g : Nat → α) {i j : Nat} (x : α) (q : j ≠ i) : ovr g i x j = g j := by simp [ovr, q]
abbrev ARI (Z : State) (h : Heap) (a : Addr) (ty : FieldType) (k : Nat) (g : Nat → Int32) : Prop := AR Z h a ty k (fun i => .int (g i))
abbrev ARJ (Z : State) (h : Heap) (a : Addr) (k : Nat) (g : Nat → Int64) : Prop := AR Z h a .long k (fun i => .long (g i))
variable {a b : Addr} {ty : FieldType} {k : Nat} {f : Nat → Value}
theorem AR.lt (A : AR Z h a ty k f) : a < h.size := by obtain ⟨_, B, -⟩ := A; exact B.lt
theorem AR.len (A : AR Z h a ty k f) : k < 2 ^ 31 := by obtain ⟨_, _, _, r, _⟩ := A; exact r
theorem AR.ext (A : AR Z h a ty k f) (E : Ext h h') : AR Z h' a ty k f := by obtain ⟨cl, B, r⟩ := A; exact ⟨cl, B.ext E, r⟩
theorem AR.other {sl : Nat} {v : Value} (A : AR Z h b ty k f) (W : Wr h h' a sl v) (q : b ≠ a) : AR Z h' b ty k f := by obtain ⟨cl, B, r⟩ := A; exact ⟨cl, B.other W q, r⟩
theorem AR.keep {ws : List Addr} (A : AR Z h a ty k f) (K : Keep h h' ws) (q : a ∉ ws) : AR Z h' a ty k f := by obtain ⟨cl, B, r⟩ := A; exact ⟨cl, ⟨K.2.1 a cl B.1 q, B.2⟩, r⟩
theorem AR.congr {g : Nat → Value} (A : AR Z h a ty k f) (q : ∀ i, i < k → f i = g i) : AR Z h a ty k g := by obtain ⟨cl, B, r1, r2, r3⟩ := A; exact ⟨cl, B, r1, r2, fun i hi => by rw [r3 i hi, q i hi]⟩
theorem AR.set {i : Nat} {v : Value} (A : AR Z h a ty k f) (W : Wr h h' a i v) : AR Z h' a ty k (ovr f i v) := by
  obtain ⟨cl, B, r1, r2, r3⟩ := A
  refine ⟨_, B.same W, by rw [sz_set]; exact r1, r2, fun j hj => ?_⟩
  by_cases u : j = i
  · subst u; simp [Cell.setSlot, r1, hj, ovr]
  · simp only [Cell.setSlot, ovr, if_neg u]
    rw [Array.getElem?_setIfInBounds_ne (Ne.symm u)]; exact r3 j hj
theorem ARI.set {g : Nat → Int32} {i : Nat} {x : Int32} (A : ARI Z h a ty k g) (W : Wr h h' a i (.int x)) : ARI Z h' a ty k (ovr g i x) := by
  refine (AR.set A W).congr fun j _ => ?_
  by_cases u : j = i <;> simp [ovr, u]
theorem ARJ.set {g : Nat → Int64} {i : Nat} {x : Int64} (A : ARJ Z h a k g) (W : Wr h h' a i (.long x)) : ARJ Z h' a k (ovr g i x) := by
  refine (AR.set A W).congr fun j _ => ?_
  by_cases u : j = i <;> simp [ovr, u]
theorem inA {j : Int32} {i : Nat} {cl : Cell} (q : j.toInt = i ∧ i < k) (e : cl.slots.size = k) : ¬ (j < 0 ∨ cl.slots.size ≤ j.toNatClampNeg) ∧ j.toNatClampNeg = i := by
  have e0 : (0 : Int32).toInt = 0 := rfl
  simp only [Int32.lt_iff_toInt_lt, Int32.toNatClampNeg, e, e0]; omega
theorem newP {aty : ArrayType} {x : Int32} {cap : Nat} (P : Pos p l e R s m args below meth c Z own nm bytes maxL ret n0 T h cells slots) (hd : decode bytes pc = .ok (.newarray aty, 2)) (w : (Cond.arrayClass (newarray.typeOf aty)).before a0 Z = true) (hx : x.toInt = k ∧ k ≤ cap) (hb' : cap * 8 ≤ 536870912) (hc : cells + 1 ≤ R.cells ∧ slots + cap ≤ R.slots) (hn : n = pc + 2)
    (E : ∀ T h' a, Pos p l e R s m args below meth c Z own nm bytes maxL ret n0 T h' (cells + 1) (slots + cap) → Ext h h' → a = h.size → n0 ≤ a → AR Z h' a (newarray.typeOf aty) k (fun _ => defaultValue (newarray.typeOf aty)) → Ends p e below s R n0 Q T (mkF m n Ls (.ref a :: st))) : Ends p e below s R n0 Q T (mkF m pc Ls (.int x :: st)) := by
  subst hn; obtain ⟨_, X, N⟩ := P.stand
  have e0 : (0 : Int32).toInt = 0 := rfl
  have q1 : ¬ x < 0 := by rw [Int32.lt_iff_toInt_lt, e0]; omega
  have q2 : x.toNatClampNeg = k := by simp only [Int32.toNatClampNeg]; omega
  obtain ⟨T', h', cA, X', e', Ex, A, kk⟩ := Jvm.RoadKit.newP X P.hx P.hZ w P.heap (g := mkF m pc Ls (.int x :: st)) rfl (hb P.code hd) rfl q1 (cap := cap) (by omega) hb' hc.1 hc.2
  refine (E T' h' _ (P.to X' N e') Ex rfl P.low ⟨_, A, (sz_new _ _ _).trans q2, by have := rng32 x; omega, fun i hi => ?_⟩).via kk
  rw [← q2] at hi
  simp [newA, hi]
theorem ldA {i : Instr} {j : Int32} {u : Nat} {v : Value} (P : Pos p l e R s m args below meth c Z own nm bytes maxL ret n0 T h cells slots) (hd : decode bytes pc = .ok (i, 1)) (A : AR Z h a ty k f) (hi : (i = .baload ∧ (ty = .byte ∨ ty = .boolean)) ∨ (i = .iaload ∧ ty = .int) ∨ (i = .laload ∧ ty = .long) ∨ (i = .caload ∧ ty = .char) ∨ (i = .aaload ∧ ty.isReference = true)) (hj : j.toInt = u ∧ u < k) (hv : v = f u) (hn : n = pc + 1)
    (E : Ends p e below s R n0 Q T (mkF m n Ls (v :: st))) : Ends p e below s R n0 Q T (mkF m pc Ls (.int j :: .ref a :: st)) := by
  subst hn hv; obtain ⟨_, X, N⟩ := P.stand
  obtain ⟨cl, B, r1, r2, r3⟩ := A
  obtain ⟨q1, q5⟩ := inA hj r1
  have q2 : cl.slots[j.toNatClampNeg]? = some (f u) := by rw [q5]; exact r3 _ hj.2
  have q3 : T.heap[a]? = some cl := by rw [P.heap]; exact B.1
  have q4 := State.isArrayOf_alike (T := s) P.hZ.alike B.2.1
  rcases hi with ⟨rfl, rfl | rfl⟩ | ⟨rfl, rfl⟩ | ⟨rfl, rfl⟩ | ⟨rfl, rfl⟩ | ⟨rfl, ht⟩
  · exact E.via fun t k => X.baloadBytes P.hx q3 q4 B.2.2 q1 q2 (g := mkF m pc Ls (.int j :: .ref a :: st)) rfl rfl (hb P.code hd) t k
  · exact E.via fun t k => X.baloadBooleans P.hx q3 q4 B.2.2 q1 q2 (g := mkF m pc Ls (.int j :: .ref a :: st)) rfl rfl (hb P.code hd) t k
  · exact E.via fun t k => X.iaload P.hx q3 q4 B.2.2 q1 q2 (g := mkF m pc Ls (.int j :: .ref a :: st)) rfl rfl (hb P.code hd) t k
  · exact E.via fun t k => X.laload P.hx q3 q4 B.2.2 q1 q2 (g := mkF m pc Ls (.int j :: .ref a :: st)) rfl rfl (hb P.code hd) t k
  · exact E.via fun t k => X.caload P.hx q3 q4 B.2.2 q1 q2 (g := mkF m pc Ls (.int j :: .ref a :: st)) rfl rfl (hb P.code hd) t k
  · exact E.via fun t k => X.aaload P.hx q3 q4 ht B.2.2 q1 q2 (g := mkF m pc Ls (.int j :: .ref a :: st)) rfl rfl (hb P.code hd) t k
theorem baloadI {j : Int32} {u : Nat} {g : Nat → Int32} (P : Pos p l e R s m args below meth c Z own nm bytes maxL ret n0 T h cells slots) (hd : decode bytes pc = .ok (.baload, 1)) (A : ARI Z h a .byte k g) (hj : j.toInt = u ∧ u < k) (hn : n = pc + 1) (E : Ends p e below s R n0 Q T (mkF m n Ls (.int (g u) :: st))) : Ends p e below s R n0 Q T (mkF m pc Ls (.int j :: .ref a :: st)) := ldA P hd A (Or.inl ⟨rfl, Or.inl rfl⟩) hj rfl hn E
theorem zaloadI {j : Int32} {u : Nat} {g : Nat → Int32} (P : Pos p l e R s m args below meth c Z own nm bytes maxL ret n0 T h cells slots) (hd : decode bytes pc = .ok (.baload, 1)) (A : ARI Z h a .boolean k g) (hj : j.toInt = u ∧ u < k) (hn : n = pc + 1) (E : Ends p e below s R n0 Q T (mkF m n Ls (.int (g u) :: st))) : Ends p e below s R n0 Q T (mkF m pc Ls (.int j :: .ref a :: st)) := ldA P hd A (Or.inl ⟨rfl, Or.inr rfl⟩) hj rfl hn E
theorem ialoadI {j : Int32} {u : Nat} {g : Nat → Int32} (P : Pos p l e R s m args below meth c Z own nm bytes maxL ret n0 T h cells slots) (hd : decode bytes pc = .ok (.iaload, 1)) (A : ARI Z h a .int k g) (hj : j.toInt = u ∧ u < k) (hn : n = pc + 1) (E : Ends p e below s R n0 Q T (mkF m n Ls (.int (g u) :: st))) : Ends p e below s R n0 Q T (mkF m pc Ls (.int j :: .ref a :: st)) := ldA P hd A (Or.inr (Or.inl ⟨rfl, rfl⟩)) hj rfl hn E
theorem laloadJ {j : Int32} {u : Nat} {g : Nat → Int64} (P : Pos p l e R s m args below meth c Z own nm bytes maxL ret n0 T h cells slots) (hd : decode bytes pc = .ok (.laload, 1)) (A : ARJ Z h a k g) (hj : j.toInt = u ∧ u < k) (hn : n = pc + 1) (E : Ends p e below s R n0 Q T (mkF m n Ls (.long (g u) :: st))) : Ends p e below s R n0 Q T (mkF m pc Ls (.int j :: .ref a :: st)) := ldA P hd A (Or.inr (Or.inr (Or.inl ⟨rfl, rfl⟩))) hj rfl hn E
theorem alen {x : Int32} (P : Pos p l e R s m args below meth c Z own nm bytes maxL ret n0 T h cells slots) (hd : decode bytes pc = .ok (.arraylength, 1)) (A : AR Z h a ty k f) (hx : x.toInt = k) (hn : n = pc + 1)
    (E : Ends p e below s R n0 Q T (mkF m n Ls (.int x :: st))) : Ends p e below s R n0 Q T (mkF m pc Ls (.ref a :: st)) := by
  subst hn; obtain ⟨_, X, N⟩ := P.stand
  obtain ⟨cl, B, r1, r2, r3⟩ := A
  have q4 := State.isArrayOf_alike (T := s) P.hZ.alike B.2.1
  have q5 : cl.slots.size.toInt32 = x := by rw [← Int32.toInt_inj, len_toInt (by omega), r1, hx]
  exact E.via fun t k => X.arraylength P.hx (by rw [P.heap]; exact B.1) q4 (g := mkF m pc Ls (.ref a :: st)) rfl rfl (hb P.code hd) t (by rw [q5]; exact k)
theorem stI {j : Int32} {u : Nat} {x : Int32} (P : Pos p l e R s m args below meth c Z own nm bytes maxL ret n0 T h cells slots) (hd : decode bytes pc = .ok (.iastore, 1)) (A : AR Z h a .int k f) (hj : j.toInt = u ∧ u < k) (ha : n0 ≤ a) (hn : n = pc + 1)
    (E : ∀ T h', Pos p l e R s m args below meth c Z own nm bytes maxL ret n0 T h' cells slots → Wr h h' a u (.int (x)) → Ends p e below s R n0 Q T (mkF m n Ls st)) : Ends p e below s R n0 Q T (mkF m pc Ls (.int x :: .int j :: .ref a :: st)) := by
  subst hn; obtain ⟨_, X, N⟩ := P.stand
  obtain ⟨cl, B, r1, r2, r3⟩ := A
  obtain ⟨q1, q5⟩ := inA hj r1
  obtain ⟨T', h', X', e', W, kk⟩ := Jvm.RoadKit.stI X P.hx P.hZ P.heap B q1 (g := mkF m pc Ls (.int x :: .int j :: .ref a :: st)) rfl rfl (hb P.code hd)
  rw [q5] at W X'
  refine (E T' h' (P.to X' (Fr.snoc X' N ha) e') ?_).via kk
  exact W
theorem stJ {j : Int32} {u : Nat} {x : Int64} (P : Pos p l e R s m args below meth c Z own nm bytes maxL ret n0 T h cells slots) (hd : decode bytes pc = .ok (.lastore, 1)) (A : AR Z h a .long k f) (hj : j.toInt = u ∧ u < k) (ha : n0 ≤ a) (hn : n = pc + 1)
    (E : ∀ T h', Pos p l e R s m args below meth c Z own nm bytes maxL ret n0 T h' cells slots → Wr h h' a u (.long (x)) → Ends p e below s R n0 Q T (mkF m n Ls st)) : Ends p e below s R n0 Q T (mkF m pc Ls (.long x :: .int j :: .ref a :: st)) := by
  subst hn; obtain ⟨_, X, N⟩ := P.stand
  obtain ⟨cl, B, r1, r2, r3⟩ := A
  obtain ⟨q1, q5⟩ := inA hj r1
  obtain ⟨T', h', X', e', W, kk⟩ := Jvm.RoadKit.stJ X P.hx P.hZ P.heap B q1 (g := mkF m pc Ls (.long x :: .int j :: .ref a :: st)) rfl rfl (hb P.code hd)
  rw [q5] at W X'
  refine (E T' h' (P.to X' (Fr.snoc X' N ha) e') ?_).via kk
  exact W
theorem stB {j : Int32} {u : Nat} {x : Int32} (P : Pos p l e R s m args below meth c Z own nm bytes maxL ret n0 T h cells slots) (hd : decode bytes pc = .ok (.bastore, 1)) (A : AR Z h a .byte k f) (hj : j.toInt = u ∧ u < k) (ha : n0 ≤ a) (hn : n = pc + 1)
    (E : ∀ T h', Pos p l e R s m args below meth c Z own nm bytes maxL ret n0 T h' cells slots → Wr h h' a u (.int (x.toInt8.toInt32)) → Ends p e below s R n0 Q T (mkF m n Ls st)) : Ends p e below s R n0 Q T (mkF m pc Ls (.int x :: .int j :: .ref a :: st)) := by
  subst hn; obtain ⟨_, X, N⟩ := P.stand
  obtain ⟨cl, B, r1, r2, r3⟩ := A
  obtain ⟨q1, q5⟩ := inA hj r1
  obtain ⟨T', h', X', e', W, kk⟩ := Jvm.RoadKit.stB X P.hx P.hZ P.heap B q1 (g := mkF m pc Ls (.int x :: .int j :: .ref a :: st)) rfl rfl (hb P.code hd)
  rw [q5] at W X'
  refine (E T' h' (P.to X' (Fr.snoc X' N ha) e') ?_).via kk
  exact W
theorem stZ {j : Int32} {u : Nat} {x : Int32} (P : Pos p l e R s m args below meth c Z own nm bytes maxL ret n0 T h cells slots) (hd : decode bytes pc = .ok (.bastore, 1)) (A : AR Z h a .boolean k f) (hj : j.toInt = u ∧ u < k) (ha : n0 ≤ a) (hz : x = 0 ∨ x = 1) (hn : n = pc + 1)
    (E : ∀ T h', Pos p l e R s m args below meth c Z own nm bytes maxL ret n0 T h' cells slots → Wr h h' a u (.int (x)) → Ends p e below s R n0 Q T (mkF m n Ls st)) : Ends p e below s R n0 Q T (mkF m pc Ls (.int x :: .int j :: .ref a :: st)) := by
  subst hn; obtain ⟨_, X, N⟩ := P.stand
  obtain ⟨cl, B, r1, r2, r3⟩ := A
  obtain ⟨q1, q5⟩ := inA hj r1
  obtain ⟨T', h', X', e', W, kk⟩ := Jvm.RoadKit.stZ X P.hx P.hZ P.heap B q1 (g := mkF m pc Ls (.int x :: .int j :: .ref a :: st)) rfl rfl (hb P.code hd)
  rw [q5] at W X'
  refine (E T' h' (P.to X' (Fr.snoc X' N ha) e') ?_).via kk
  rcases hz with rfl | rfl <;> exact W
theorem stC {j : Int32} {u : Nat} {x : Int32} (P : Pos p l e R s m args below meth c Z own nm bytes maxL ret n0 T h cells slots) (hd : decode bytes pc = .ok (.castore, 1)) (A : AR Z h a .char k f) (hj : j.toInt = u ∧ u < k) (ha : n0 ≤ a) (hn : n = pc + 1)
    (E : ∀ T h', Pos p l e R s m args below meth c Z own nm bytes maxL ret n0 T h' cells slots → Wr h h' a u (.int (nar .char x)) → Ends p e below s R n0 Q T (mkF m n Ls st)) : Ends p e below s R n0 Q T (mkF m pc Ls (.int x :: .int j :: .ref a :: st)) := by
  subst hn; obtain ⟨_, X, N⟩ := P.stand
  obtain ⟨cl, B, r1, r2, r3⟩ := A
  obtain ⟨q1, q5⟩ := inA hj r1
  obtain ⟨T', h', X', e', W, kk⟩ := Jvm.RoadKit.stC X P.hx P.hZ P.heap B q1 (g := mkF m pc Ls (.int x :: .int j :: .ref a :: st)) rfl rfl (hb P.code hd)
  rw [q5] at W X'
  exact (E T' h' (P.to X' (Fr.snoc X' N ha) e') W).via kk
/-- the library's form of an array -/
theorem AR.arv {vs : List Value} {dv : Value} {N : Int32} (A : AR Z h a ty k f) (hN : N.toInt = k) (hv : ∀ i, i < k → f i = vs.getD i dv) (hf : ∀ i, i < k → fits ty (vs.getD i dv) = true) : ∃ kC, Arv Z h a kC ty N vs dv := by
  obtain ⟨cl, B, r1, r2, r3⟩ := A
  have e0 : (0 : Int32).toInt = 0 := rfl
  refine ⟨cl.cls, cl, B, rfl, by rw [r1]; simp only [Int32.toNatClampNeg]; omega, by rw [Int32.lt_iff_toInt_lt, e0]; omega, fun i hi => ?_, fun i hi => hf i (r1 ▸ hi)⟩
  rw [r1] at hi; rw [r3 i hi, hv i hi]
/-! arrays of references -/
def ARC (Z : State) (h : Heap) (a : Addr) (C : String) (k : Nat) (f : Nat → Value) : Prop := ∃ cl : Cell, Arr Z h a cl (.object C) ∧ cl.slots.size = k ∧ k < 2 ^ 31 ∧ (∀ i, i < k → cl.slots[i]? = some (f i)) ∧ Ovr Z cl.cls C
theorem ARC.ar {C : String} (A : ARC Z h a C k f) : AR Z h a (.object C) k f := by obtain ⟨cl, B, r1, r2, r3, -⟩ := A; exact ⟨cl, B, r1, r2, r3⟩
theorem ARC.lt {C : String} (A : ARC Z h a C k f) : a < h.size := A.ar.lt
theorem ARC.ext {C : String} (A : ARC Z h a C k f) (E : Ext h h') : ARC Z h' a C k f := by obtain ⟨cl, B, r⟩ := A; exact ⟨cl, B.ext E, r⟩
theorem ARC.other {C : String} {sl : Nat} {v : Value} (A : ARC Z h b C k f) (W : Wr h h' a sl v) (q : b ≠ a) : ARC Z h' b C k f := by obtain ⟨cl, B, r⟩ := A; exact ⟨cl, B.other W q, r⟩
theorem ARC.set {C : String} {i : Nat} {v : Value} (A : ARC Z h a C k f) (W : Wr h h' a i v) : ARC Z h' a C k (ovr f i v) := by
  obtain ⟨cl, B, r1, r2, r3, r4⟩ := A
  refine ⟨_, B.same W, by rw [sz_set]; exact r1, r2, fun j hj => ?_, r4⟩
  by_cases u : j = i
  · subst u; simp [Cell.setSlot, r1, hj, ovr]
  · simp only [Cell.setSlot, ovr, if_neg u]
    rw [Array.getElem?_setIfInBounds_ne (Ne.symm u)]; exact r3 j hj
theorem newR {index : Nat} {C : String} {x : Int32} {cap : Nat} (P : Pos p l e R s m args below meth c Z own nm bytes maxL ret n0 T h cells slots) (hd : decode bytes pc = .ok (.anewarray index, 3)) (w1 : (Cond.classLink own index C).before a0 Z = true) (w2 : (Cond.arrayOver (.object C)).before a0 Z = true) (hx : x.toInt = k ∧ k ≤ cap) (hb' : cap * 8 ≤ 536870912) (hc : cells + 1 ≤ R.cells ∧ slots + cap ≤ R.slots) (hn : n = pc + 3)
    (E : ∀ T h' a, Pos p l e R s m args below meth c Z own nm bytes maxL ret n0 T h' (cells + 1) (slots + cap) → Ext h h' → a = h.size → n0 ≤ a → ARC Z h' a C k (fun _ => .null) → Ends p e below s R n0 Q T (mkF m n Ls (.ref a :: st))) : Ends p e below s R n0 Q T (mkF m pc Ls (.int x :: st)) := by
  subst hn; obtain ⟨_, X, N⟩ := P.stand
  have e0 : (0 : Int32).toInt = 0 := rfl
  have q1 : ¬ x < 0 := by rw [Int32.lt_iff_toInt_lt, e0]; omega
  have q2 : x.toNatClampNeg = k := by simp only [Int32.toNatClampNeg]; omega
  obtain ⟨T', h', cA, X', e', Ex, A, O, kk⟩ := Jvm.RoadKit.newR X P.hx P.hZ P.own' w1 w2 P.heap (g := mkF m pc Ls (.int x :: st)) rfl (hb P.code hd) rfl q1 (cap := cap) (by omega) hb' hc.1 hc.2
  refine (E T' h' _ (P.to X' N e') Ex rfl P.low ⟨_, A, (sz_new _ _ _).trans q2, by have := rng32 x; omega, fun i hi => ?_, O⟩).via kk
  rw [← q2] at hi
  simp [newA, hi, defaultValue]
theorem stR {C : String} {j : Int32} {u : Nat} {y : Addr} (P : Pos p l e R s m args below meth c Z own nm bytes maxL ret n0 T h cells slots) (hd : decode bytes pc = .ok (.aastore, 1)) (A : ARC Z h a C k f) (hj : j.toInt = u ∧ u < k) (I : Ins Z h y C true) (ha : n0 ≤ a) (hn : n = pc + 1)
    (E : ∀ T h', Pos p l e R s m args below meth c Z own nm bytes maxL ret n0 T h' cells slots → Wr h h' a u (.ref y) → Ends p e below s R n0 Q T (mkF m n Ls st)) : Ends p e below s R n0 Q T (mkF m pc Ls (.ref y :: .int j :: .ref a :: st)) := by
  subst hn; obtain ⟨_, X, N⟩ := P.stand
  obtain ⟨cl, B, r1, r2, r3, r4⟩ := A
  obtain ⟨q1, q5⟩ := inA hj r1
  obtain ⟨T', h', X', e', W, kk⟩ := Jvm.RoadKit.stR X P.hx P.hZ P.heap B q1 rfl (Sto.of B r4 I) (g := mkF m pc Ls (.ref y :: .int j :: .ref a :: st)) rfl rfl (hb P.code hd)
  rw [q5] at W X'
  exact (E T' h' (P.to X' (Fr.snoc X' N ha) e') W).via kk
/-- null into an array of references -/
theorem stN {j : Int32} {u : Nat} (P : Pos p l e R s m args below meth c Z own nm bytes maxL ret n0 T h cells slots) (hd : decode bytes pc = .ok (.aastore, 1)) (A : AR Z h a ty k f) (ht : ty.isReference = true) (hj : j.toInt = u ∧ u < k) (ha : n0 ≤ a) (hn : n = pc + 1)
    (E : ∀ T h', Pos p l e R s m args below meth c Z own nm bytes maxL ret n0 T h' cells slots → Wr h h' a u .null → Ends p e below s R n0 Q T (mkF m n Ls st)) : Ends p e below s R n0 Q T (mkF m pc Ls (.null :: .int j :: .ref a :: st)) := by
  subst hn; obtain ⟨_, X, N⟩ := P.stand
  obtain ⟨cl, B, r1, r2, r3⟩ := A
  obtain ⟨q1, q5⟩ := inA hj r1
  obtain ⟨T', h', X', e', W, kk⟩ := Jvm.RoadKit.stR X P.hx P.hZ P.heap B q1 ht (Or.inl rfl) (g := mkF m pc Ls (.null :: .int j :: .ref a :: st)) rfl rfl (hb P.code hd)
  rw [q5] at W X'
  exact (E T' h' (P.to X' (Fr.snoc X' N ha) e') W).via kk
theorem newRA {index : Nat} {C ad : String} {ty : FieldType} {x : Int32} {cap : Nat} (P : Pos p l e R s m args below meth c Z own nm bytes maxL ret n0 T h cells slots) (hd : decode bytes pc = .ok (.anewarray index, 3)) (hC : (FieldType.array ty).toString = C) (had : "[" ++ C = ad) (w1 : (Cond.classLink own index C).before a0 Z = true) (w2 : (Cond.arrayOver (.array ty)).before a0 Z = true) (hx : x.toInt = k ∧ k ≤ cap) (hb' : cap * 8 ≤ 536870912) (hc : cells + 1 ≤ R.cells ∧ slots + cap ≤ R.slots) (hn : n = pc + 3)
    (E : ∀ T h' a, Pos p l e R s m args below meth c Z own nm bytes maxL ret n0 T h' (cells + 1) (slots + cap) → Ext h h' → a = h.size → n0 ≤ a → AR Z h' a (.array ty) k (fun _ => .null) → Ends p e below s R n0 Q T (mkF m n Ls (.ref a :: st))) : Ends p e below s R n0 Q T (mkF m pc Ls (.int x :: st)) := by
  subst hn; obtain ⟨_, X, N⟩ := P.stand
  have e0 : (0 : Int32).toInt = 0 := rfl
  have q1 : ¬ x < 0 := by rw [Int32.lt_iff_toInt_lt, e0]; omega
  have q2 : x.toNatClampNeg = k := by simp only [Int32.toNatClampNeg]; omega
  obtain ⟨T', h', cA, X', e', Ex, A, -, -, kk⟩ := Jvm.RoadKit.newRA X P.hx P.hZ P.own' hC w1 w2 P.heap (g := mkF m pc Ls (.int x :: st)) rfl (hb P.code hd) rfl q1 (cap := cap) (by omega) hb' hc.1 hc.2 had
  refine (E T' h' _ (P.to X' N e') Ex rfl P.low ⟨_, A, (sz_new _ _ _).trans q2, by have := rng32 x; omega, fun i hi => ?_⟩).via kk
  rw [← q2] at hi
  simp [newA, hi, defaultValue]
theorem aaloadA {j : Int32} {u : Nat} {g : Nat → Addr} {C : String} (P : Pos p l e R s m args below meth c Z own nm bytes maxL ret n0 T h cells slots) (hd : decode bytes pc = .ok (.aaload, 1)) (A : AR Z h a (.object C) k (fun i => .ref (g i))) (hj : j.toInt = u ∧ u < k) (hn : n = pc + 1) (E : Ends p e below s R n0 Q T (mkF m n Ls (.ref (g u) :: st))) : Ends p e below s R n0 Q T (mkF m pc Ls (.int j :: .ref a :: st)) := ldA P hd A (Or.inr (Or.inr (Or.inr (Or.inr ⟨rfl, rfl⟩)))) hj rfl hn E
/-! from the sheet's words -/
theorem eq_v {t : Term} {k : Int32} {idx : List Nat} (h : (Cond.eq t (.int k)).value args s none s idx = some true) : t.eval args s none idx s = some (.int k) := by
  cases hv : t.eval args s none idx s with
  | none => simp [Cond.value, hv] at h
  | some v => cases v <;> simp_all [Cond.value, Term.eval]
theorem ord_v {t : Term} {C nn d : String} {k : Int32} (ht : t.eval args s none [] s = some (.ref a)) (h : (Cond.eq (.field t C nn d) (.int k)).value args s none s [] = some true) : Fld s s.heap a C nn d (.int k) :=
  Fld.start ((fld_at (o := none) (args := args) (first := s) (idx := []) ht).symm.trans (eq_v h))
theorem fref_v {t u : Term} {C nn d : String} (ht : t.eval args s none [] s = some (.ref a)) (hu : u.eval args s none [] s = some (.ref b)) (h : (Cond.eq (.field t C nn d) u).value args s none s [] = some true) : Fld s s.heap a C nn d (.ref b) := by
  refine Fld.start ((fld_at (o := none) (args := args) (first := s) (idx := []) ht).symm.trans ?_)
  cases hv : (Term.field t C nn d).eval args s none [] s with
  | none => simp [Cond.value, hv] at h
  | some v => cases v <;> simp_all [Cond.value]
theorem AR.start {t : Term} {z : Int32} (ev : t.eval args s none [] s = some (.ref a)) (hx : (Cond.arrayOf t ty).value args s none s [] = some true) (hl : (Cond.eq (.length t) (.int z)).value args s none s [] = some true) (hz : z.toInt = k)
    (he : ∀ i, i < k → (Term.elem t (.int (Int32.ofNat i))).eval args s none [] s = some (f i)) : AR s s.heap a ty k f := by
  obtain ⟨cl, A⟩ := Arr.start ev hx
  have hA : s.arrayAt? a = some cl := A.fin (Vm.Alike.refl _)
  have hl2 := eq_v hl
  have hl3 : cl.slots.size < 2 ^ 31 ∧ cl.slots.size.toInt32 = z := by simpa [Term.eval, ev, hA] using hl2
  have hsz : cl.slots.size = k := by
    have := len_toInt hl3.1; rw [hl3.2, hz] at this; omega
  refine ⟨cl, A, hsz, by omega, fun i hi => ?_⟩
  have e2 := (elem_in (he i hi) ev (Term.int_eval _) A.1).2
  have e3 : (Int32.ofNat i).toNatClampNeg = i := by
    simp only [Int32.toNatClampNeg, Int32.toInt_ofNat_small (show i < 2 ^ 31 by omega)]; omega
  rw [e3] at e2; exact e2
/-! calls -/
theorem Meth.back {y : MethodName} {cb : ByteArray} {mL : Nat} {rt : Option FieldType} {rm : Room} {as : Array Value} {Qc : Option Value → Heap → Prop} {W : Nat} (hM : Meth l Z y cb mL rt rm as h n0 Qc) (hZ : Z.Warmed39 s.vm) (wc : (Cond.code y cb mL rt).before a0 Z = true) (wz : (Cond.initialized y.cls).before a0 Z = true) (hf : rm.frames + 1 ≤ R.frames) (hl : W + (mL + 11) + rm.locals ≤ R.locals) :
    Back l R p e below s args y 3 W (fun A a => a = as ∧ A.U.heap = h ∧ A.cells + rm.cells ≤ R.cells ∧ A.slots + rm.slots ≤ R.slots) (fun A _ v B => ∃ L, (Qc v B.U.heap ∧ Fr n0 L) ∧ B.locs = A.locs ++ L ∧ B.cells = A.cells + rm.cells ∧ B.slots = A.slots + rm.slots) :=
  backOf (Q := fun v h' L => Qc v h' ∧ Fr n0 L) (hM []) hZ wc wz hf hl
theorem callS {index : Nat} {y : MethodName} {cb : ByteArray} {mL : Nat} {rt : Option FieldType} {rm : Room} {argsL rest stk : List Value} {ps : List FieldType} {r : Option FieldType} {Qc : Option Value → Heap → Prop} (P : Pos p l e R s m args below meth c Z own nm bytes maxL ret n0 T h cells slots) (hd : decode bytes pc = .ok (.invokestatic index, 3))
    (hM : Meth l Z y cb mL rt rm argsL.toArray h n0 Qc) (w1 : (Cond.methodLink own index y).before a0 Z = true) (w2 : (Cond.static y).before a0 Z = true) (w3 : (Cond.initialized y.cls).before a0 Z = true) (w4 : (Cond.code y cb mL rt).before a0 Z = true) (hy : y.cls ≠ "java/lang/invoke/MethodHandle" ∧ y.cls ≠ "java/lang/invoke/VarHandle")
    (hp : parseMethodDescriptor y.desc = some ⟨ps, r⟩) (hl : argsL.length = ps.length) (hst : stk = argsL.reverse ++ rest) (hsz : Ls.size = maxL) (hr : rm.frames + 1 ≤ R.frames ∧ (rest.map fun v => v.category).sum + (mL + 11) + rm.locals ≤ R.locals ∧ cells + rm.cells ≤ R.cells ∧ slots + rm.slots ≤ R.slots) (hn : n = pc + 3)
    (E : ∀ T h' v, Pos p l e R s m args below meth c Z own nm bytes maxL ret n0 T h' (cells + rm.cells) (slots + rm.slots) → Qc v h' → Ends p e below s R n0 Q T (mkF m n Ls (v.toList ++ rest))) : Ends p e below s R n0 Q T (mkF m pc Ls stk) := by
  subst hn hst; obtain ⟨locs, X, N⟩ := P.stand
  obtain ⟨v, _, ⟨T', L', k', n'⟩, -, X', ⟨Lc, hQ, e1, e2, e3⟩, kk⟩ := Jvm.LawKit.callS X P.hx (y := y) P.own' (mvT P.hZ w1) (mvT P.hZ w2) (mvT P.hZ w3) (mvT P.hZ w4) hy (hM.back (W := (rest.map fun v => v.category).sum) P.hZ w4 w3 hr.1 hr.2.1) (g := mkF m pc Ls (argsL.reverse ++ rest)) rfl (hsz.trans P.maxl.symm) (argsL := argsL) (rest := rest) (lenOf hp hl) rfl (by show 2 * 0 + _ ≤ _; omega) (hb P.code hd) (fun _ _ => ⟨rfl, P.heap, hr.2.2.1, hr.2.2.2⟩)
  dsimp only [Pt.U, Pt.locs, Pt.cells, Pt.slots] at X' e1 e2 e3 kk hQ
  subst e1 e2 e3
  exact (E T' T'.heap v (P.to X' (Fr.app N hQ.2) rfl) hQ.1).via kk
theorem callN {a : Addr} {index : Nat} {y : MethodName} {cb : ByteArray} {mL : Nat} {rm : Room} {argsL rest stk : List Value} {ps : List FieldType} {r : Option FieldType} {Qc : Option Value → Heap → Prop} (P : Pos p l e R s m args below meth c Z own nm bytes maxL ret n0 T h cells slots) (hd : decode bytes pc = .ok (.invokespecial index, 3))
    (hM : Meth l Z y cb mL none rm (.ref a :: argsL).toArray h n0 Qc) (hy1 : y.name = "<init>") (w1 : (Cond.methodLink own index y).before a0 Z = true) (w2 : (Cond.instanceMethod y).before a0 Z = true) (w3 : (Cond.initialized y.cls).before a0 Z = true) (w4 : (Cond.code y cb mL none).before a0 Z = true) (hy : y.cls ≠ "java/lang/invoke/MethodHandle" ∧ y.cls ≠ "java/lang/invoke/VarHandle")
    (hp : parseMethodDescriptor y.desc = some ⟨ps, r⟩) (hl : argsL.length = ps.length) (hst : stk = argsL.reverse ++ .ref a :: rest) (hsz : Ls.size = maxL) (hr : rm.frames + 1 ≤ R.frames ∧ (rest.map fun v => v.category).sum + (mL + 11) + rm.locals ≤ R.locals ∧ cells + rm.cells ≤ R.cells ∧ slots + rm.slots ≤ R.slots) (hn : n = pc + 3)
    (E : ∀ T h' v, Pos p l e R s m args below meth c Z own nm bytes maxL ret n0 T h' (cells + rm.cells) (slots + rm.slots) → Qc v h' → Ends p e below s R n0 Q T (mkF m n Ls (v.toList ++ rest))) : Ends p e below s R n0 Q T (mkF m pc Ls stk) := by
  subst hn hst; obtain ⟨locs, X, N⟩ := P.stand
  obtain ⟨v, _, ⟨T', L', k', n'⟩, -, X', ⟨Lc, hQ, e1, e2, e3⟩, kk⟩ := X.specialBack P.hx (y := y) hy1 P.own' (mvT P.hZ w1) (mvT P.hZ w2) (mvT P.hZ w4) hy (hM.back (W := (rest.map fun v => v.category).sum) P.hZ w4 w3 hr.1 hr.2.1) (g := mkF m pc Ls (argsL.reverse ++ .ref a :: rest)) rfl (hsz.trans P.maxl.symm) (Steps.refl _) (a := a) (argsL := argsL) (rest := rest) (lenOf hp hl) rfl (by show 2 * 0 + _ ≤ _; omega) (hb P.code hd) (fun _ _ => ⟨rfl, P.heap, hr.2.2.1, hr.2.2.2⟩)
  dsimp only [Pt.U, Pt.locs, Pt.cells, Pt.slots] at X' e1 e2 e3 kk hQ
  subst e1 e2 e3
  exact (E T' T'.heap v (P.to X' (Fr.app N hQ.2) rfl) hQ.1).via fun t k => kk.trans k
theorem callV {a : Addr} {C : String} {z : MethodName} {index : Nat} {y : MethodName} {cb : ByteArray} {mL : Nat} {rt : Option FieldType} {rm : Room} {argsL rest stk : List Value} {ps : List FieldType} {r : Option FieldType} {Qc : Option Value → Heap → Prop} (P : Pos p l e R s m args below meth c Z own nm bytes maxL ret n0 T h cells slots) (hd : decode bytes pc = .ok (.invokevirtual index, 3))
    (hM : Meth l Z z cb mL rt rm (.ref a :: argsL).toArray h n0 Qc) (X0 : Exa Z h a C) (w1 : (Cond.methodLink own index y).before a0 Z = true) (w2 : (Cond.declares y).before a0 Z = true) (nf : NotFace s y) (ws : (Cond.selects C y z).before a0 Z = true) (wi : (Cond.instanceMethod z).before a0 Z = true) (w3 : (Cond.initialized z.cls).before a0 Z = true) (w4 : (Cond.code z cb mL rt).before a0 Z = true) (hy : y.cls ≠ "java/lang/invoke/MethodHandle" ∧ y.cls ≠ "java/lang/invoke/VarHandle")
    (hp : parseMethodDescriptor y.desc = some ⟨ps, r⟩) (hl : argsL.length = ps.length) (hst : stk = argsL.reverse ++ .ref a :: rest) (hsz : Ls.size = maxL) (hr : rm.frames + 1 ≤ R.frames ∧ (rest.map fun v => v.category).sum + (mL + 11) + rm.locals ≤ R.locals ∧ cells + rm.cells ≤ R.cells ∧ slots + rm.slots ≤ R.slots) (hn : n = pc + 3)
    (E : ∀ T h' v, Pos p l e R s m args below meth c Z own nm bytes maxL ret n0 T h' (cells + rm.cells) (slots + rm.slots) → Qc v h' → Ends p e below s R n0 Q T (mkF m n Ls (v.toList ++ rest))) : Ends p e below s R n0 Q T (mkF m pc Ls stk) := by
  subst hn hst; obtain ⟨locs, X, N⟩ := P.stand
  obtain ⟨cq, kq, q1, q2, q3⟩ := isOf P.hZ P.heap X0
  obtain ⟨v, _, ⟨T', L', k', n'⟩, -, X', ⟨Lc, hQ, e1, e2, e3⟩, kk⟩ := X.virtualBack P.hx (y := y) (z := z) P.own' (mvT P.hZ w1) (mvT P.hZ w2) nf (mvT P.hZ ws) (mvT P.hZ wi) hy (hM.back (W := (rest.map fun v => v.category).sum) P.hZ w4 w3 hr.1 hr.2.1) q1 q3 (g := mkF m pc Ls (argsL.reverse ++ .ref a :: rest)) rfl (hsz.trans P.maxl.symm) (Steps.refl _) (argsL := argsL) (rest := rest) (lenOf hp hl) rfl (by show 2 * 0 + _ ≤ _; omega) (hb P.code hd) (fun _ _ => ⟨rfl, P.heap, hr.2.2.1, hr.2.2.2⟩)
  dsimp only [Pt.U, Pt.locs, Pt.cells, Pt.slots] at X' e1 e2 e3 kk hQ
  subst e1 e2 e3
  exact (E T' T'.heap v (P.to X' (Fr.app N hQ.2) rfl) hQ.1).via fun t k => kk.trans k
theorem callP {a : Addr} {C : String} {kk : Nat} {index : Nat} {y : MethodName} {cb : ByteArray} {mL : Nat} {rt : Option FieldType} {rm : Room} {argsL rest stk : List Value} {ps : List FieldType} {r : Option FieldType} {Qc : Option Value → Heap → Prop} (P : Pos p l e R s m args below meth c Z own nm bytes maxL ret n0 T h cells slots) (hd : decode bytes pc = .ok (.invokevirtual index, 3))
    (hM : Meth l Z y cb mL rt rm (.ref a :: argsL).toArray h n0 Qc) (X0 : Exa Z h a C) (w1 : (Cond.methodLink own index y).before a0 Z = true) (wi : (Cond.instanceMethod y).before a0 Z = true) (wn : (Cond.instantiable y.cls kk).before a0 Z = true) (wp : (Cond.privateMethod y).before a0 Z = true) (w3 : (Cond.initialized y.cls).before a0 Z = true) (w4 : (Cond.code y cb mL rt).before a0 Z = true) (hy : y.cls ≠ "java/lang/invoke/MethodHandle" ∧ y.cls ≠ "java/lang/invoke/VarHandle")
    (hp : parseMethodDescriptor y.desc = some ⟨ps, r⟩) (hl : argsL.length = ps.length) (hst : stk = argsL.reverse ++ .ref a :: rest) (hsz : Ls.size = maxL) (hr : rm.frames + 1 ≤ R.frames ∧ (rest.map fun v => v.category).sum + (mL + 11) + rm.locals ≤ R.locals ∧ cells + rm.cells ≤ R.cells ∧ slots + rm.slots ≤ R.slots) (hn : n = pc + 3)
    (E : ∀ T h' v, Pos p l e R s m args below meth c Z own nm bytes maxL ret n0 T h' (cells + rm.cells) (slots + rm.slots) → Qc v h' → Ends p e below s R n0 Q T (mkF m n Ls (v.toList ++ rest))) : Ends p e below s R n0 Q T (mkF m pc Ls stk) := by
  subst hn hst; obtain ⟨locs, X, N⟩ := P.stand
  obtain ⟨cq, q1, q2⟩ := X0.cell
  have wi' : (Cond.instanceMethod y).before args s = true := mvT P.hZ wi
  have pv : s.PrivateAt y := Cond.privateMethod_at (mvP P.hZ wp (args := #[]))
  obtain ⟨c0, k0, hc0, hk0, -, hfl, -⟩ := Cond.instantiable_spec (mvT P.hZ wn (args := args))
  have ws : (Cond.selects y.cls y y).before args s = true := selects_self_of_private hc0 hk0 (by simp_all) pv wi' hy
  obtain ⟨v, _, ⟨T', L', k', n'⟩, -, X', ⟨Lc, hQ, e1, e2, e3⟩, kk⟩ := X.privateBack P.hx (y := y) P.own' (mvT P.hZ w1) wi' ws pv (mvT P.hZ w4) hy (hM.back (W := (rest.map fun v => v.category).sum) P.hZ w4 w3 hr.1 hr.2.1) (g := mkF m pc Ls (argsL.reverse ++ .ref a :: rest)) rfl (hsz.trans P.maxl.symm) (Steps.refl _) (a := a) (by rw [P.heap]; exact q1) q2 (argsL := argsL) (rest := rest) (lenOf hp hl) rfl (by show 2 * 0 + _ ≤ _; omega) (hb P.code hd) (fun _ _ => ⟨rfl, P.heap, hr.2.2.1, hr.2.2.2⟩)
  dsimp only [Pt.U, Pt.locs, Pt.cells, Pt.slots] at X' e1 e2 e3 kk hQ
  subst e1 e2 e3
  exact (E T' T'.heap v (P.to X' (Fr.app N hQ.2) rfl) hQ.1).via fun t k => kk.trans k
/-- a constructor's call paid by a given Back -/
theorem callNB {a : Addr} {index : Nat} {y : MethodName} {cb : ByteArray} {mL : Nat} {argsL rest stk : List Value} {ps : List FieldType} {r : Option FieldType} {kc ks : Nat} {QQ : Option Value → Heap → List Loc → Prop} (P : Pos p l e R s m args below meth c Z own nm bytes maxL ret n0 T h cells slots) (hd : decode bytes pc = .ok (.invokespecial index, 3))
    (hB : Back l R p e below s args y 3 (rest.map fun v => v.category).sum (fun A a' => a' = (.ref a :: argsL).toArray ∧ A.U.heap = h ∧ A.cells + kc ≤ R.cells ∧ A.slots + ks ≤ R.slots) (fun A _ v B => ∃ L, QQ v B.U.heap L ∧ B.locs = A.locs ++ L ∧ B.cells = A.cells + kc ∧ B.slots = A.slots + ks))
    (hQF : ∀ v h' L, QQ v h' L → Fr n0 L) (hy1 : y.name = "<init>") (w1 : (Cond.methodLink own index y).before a0 Z = true) (w2 : (Cond.instanceMethod y).before a0 Z = true) (w4 : (Cond.code y cb mL none).before a0 Z = true) (hy : y.cls ≠ "java/lang/invoke/MethodHandle" ∧ y.cls ≠ "java/lang/invoke/VarHandle")
    (hp : parseMethodDescriptor y.desc = some ⟨ps, r⟩) (hl : argsL.length = ps.length) (hst : stk = argsL.reverse ++ .ref a :: rest) (hsz : Ls.size = maxL) (hr : cells + kc ≤ R.cells ∧ slots + ks ≤ R.slots) (hn : n = pc + 3)
    (E : ∀ T h' v L, Pos p l e R s m args below meth c Z own nm bytes maxL ret n0 T h' (cells + kc) (slots + ks) → QQ v h' L → Ends p e below s R n0 Q T (mkF m n Ls (v.toList ++ rest))) : Ends p e below s R n0 Q T (mkF m pc Ls stk) := by
  subst hn hst; obtain ⟨locs, X, N⟩ := P.stand
  obtain ⟨v, _, ⟨T', L', k', n'⟩, -, X', ⟨Lc, hQ, e1, e2, e3⟩, kk⟩ := X.specialBack P.hx (y := y) hy1 P.own' (mvT P.hZ w1) (mvT P.hZ w2) (mvT P.hZ w4) hy hB (g := mkF m pc Ls (argsL.reverse ++ .ref a :: rest)) rfl (hsz.trans P.maxl.symm) (Steps.refl _) (a := a) (argsL := argsL) (rest := rest) (lenOf hp hl) rfl (by show 2 * 0 + _ ≤ _; omega) (hb P.code hd) (fun _ _ => ⟨rfl, P.heap, hr.1, hr.2⟩)
  dsimp only [Pt.U, Pt.locs, Pt.cells, Pt.slots] at X' e1 e2 e3 kk hQ
  subst e1 e2 e3
  exact (E T' T'.heap v Lc (P.to X' (Fr.app N (hQF _ _ _ hQ)) rfl) hQ).via fun t k => kk.trans k
/-- returns v and leaves the heap as it was -/
def Ret (v : Value) (h : Heap) : Option Value → Heap → Prop := fun w h' => w = some v ∧ h' = h
theorem Ret.ofI {x y : Int32} (q : x = y) : Ret (.int y) h (some (.int x)) h := ⟨by rw [q], rfl⟩
theorem Ret.ofL {x y : Int64} (q : x = y) : Ret (.long y) h (some (.long x)) h := ⟨by rw [q], rfl⟩
theorem Ret.ofA {x y : Value} (q : x = y) : Ret y h (some x) h := ⟨by rw [q], rfl⟩
/-- the continuation behind a call that only returns -/
theorem Ret.on {v : Value} {cells' slots' : Nat} {rest : List Value} (E : ∀ T, Pos p l e R s m args below meth c Z own nm bytes maxL ret n0 T h cells' slots' → Ends p e below s R n0 Q T (mkF m n Ls (v :: rest))) :
    ∀ T h' w, Pos p l e R s m args below meth c Z own nm bytes maxL ret n0 T h' cells' slots' → Ret v h w h' → Ends p e below s R n0 Q T (mkF m n Ls (w.toList ++ rest)) := by
  rintro T h' w P ⟨rfl, rfl⟩; exact E T P

/-- returns nothing and leaves the heap as it was -/
def RetV (h : Heap) : Option Value → Heap → Prop := fun w h' => w = none ∧ h' = h
theorem RetV.mk : RetV h none h := ⟨rfl, rfl⟩
theorem RetV.on {cells' slots' : Nat} {rest : List Value} (E : ∀ T, Pos p l e R s m args below meth c Z own nm bytes maxL ret n0 T h cells' slots' → Ends p e below s R n0 Q T (mkF m n Ls rest)) :
    ∀ T h' w, Pos p l e R s m args below meth c Z own nm bytes maxL ret n0 T h' cells' slots' → RetV h w h' → Ends p e below s R n0 Q T (mkF m n Ls (w.toList ++ rest)) := by
  rintro T h' w P ⟨rfl, rfl⟩; exact E T P
/-- returns an int (a long) of which F holds, and leaves the heap as it was -/
def RetI (F : Int32 → Prop) (h : Heap) : Option Value → Heap → Prop := fun w h' => ∃ z, w = some (.int z) ∧ F z ∧ h' = h
def RetJ (F : Int64 → Prop) (h : Heap) : Option Value → Heap → Prop := fun w h' => ∃ z, w = some (.long z) ∧ F z ∧ h' = h
theorem RetI.mk {F : Int32 → Prop} {x : Int32} (q : F x) : RetI F h (some (.int x)) h := ⟨x, rfl, q, rfl⟩
theorem RetJ.mk {F : Int64 → Prop} {x : Int64} (q : F x) : RetJ F h (some (.long x)) h := ⟨x, rfl, q, rfl⟩
theorem RetI.on {F : Int32 → Prop} {cells' slots' : Nat} {rest : List Value} (E : ∀ T z, Pos p l e R s m args below meth c Z own nm bytes maxL ret n0 T h cells' slots' → F z → Ends p e below s R n0 Q T (mkF m n Ls (.int z :: rest))) :
    ∀ T h' w, Pos p l e R s m args below meth c Z own nm bytes maxL ret n0 T h' cells' slots' → RetI F h w h' → Ends p e below s R n0 Q T (mkF m n Ls (w.toList ++ rest)) := by
  rintro T h' w P ⟨z, rfl, q, rfl⟩; exact E T z P q
theorem RetJ.on {F : Int64 → Prop} {cells' slots' : Nat} {rest : List Value} (E : ∀ T z, Pos p l e R s m args below meth c Z own nm bytes maxL ret n0 T h cells' slots' → F z → Ends p e below s R n0 Q T (mkF m n Ls (.long z :: rest))) :
    ∀ T h' w, Pos p l e R s m args below meth c Z own nm bytes maxL ret n0 T h' cells' slots' → RetJ F h w h' → Ends p e below s R n0 Q T (mkF m n Ls (w.toList ++ rest)) := by
  rintro T h' w P ⟨z, rfl, q, rfl⟩; exact E T z P q
end Core
/-! numbers: what an operation is worth where nothing wraps -/
section Num
theorem n_iadd {x y z : Int32} {X Y : Int} (hz : z = x + y) (hx : x.toInt = X) (hy : y.toInt = Y) (b : -2147483648 ≤ X + Y ∧ X + Y ≤ 2147483647) : z.toInt = X + Y := by
  subst hz hx hy; have := c_iadd x y; have := rng32 (x + y); omega
theorem n_isub {x y z : Int32} {X Y : Int} (hz : z = x - y) (hx : x.toInt = X) (hy : y.toInt = Y) (b : -2147483648 ≤ X - Y ∧ X - Y ≤ 2147483647) : z.toInt = X - Y := by
  subst hz hx hy; have := c_isub x y; have := rng32 (x - y); omega
theorem n_imul {x y z : Int32} {X Y : Int} (hz : z = x * y) (hx : x.toInt = X) (hy : y.toInt = Y) (b : -2147483648 ≤ X * Y ∧ X * Y ≤ 2147483647) : z.toInt = X * Y := by
  subst hz hx hy; have h1 := c_imul x y; have := rng32 (x * y); generalize x.toInt * y.toInt = w at *; omega
theorem n_ladd {x y z : Int64} {X Y : Int} (hz : z = x + y) (hx : x.toInt = X) (hy : y.toInt = Y) (b : -9223372036854775808 ≤ X + Y ∧ X + Y ≤ 9223372036854775807) : z.toInt = X + Y := by
  subst hz hx hy; have := c_ladd x y; have := rng64 (x + y); omega
theorem n_lsub {x y z : Int64} {X Y : Int} (hz : z = x - y) (hx : x.toInt = X) (hy : y.toInt = Y) (b : -9223372036854775808 ≤ X - Y ∧ X - Y ≤ 9223372036854775807) : z.toInt = X - Y := by
  subst hz hx hy; have := c_lsub x y; have := rng64 (x - y); omega
theorem n_lmul {x y z : Int64} {X Y : Int} (hz : z = x * y) (hx : x.toInt = X) (hy : y.toInt = Y) (b : -9223372036854775808 ≤ X * Y ∧ X * Y ≤ 9223372036854775807) : z.toInt = X * Y := by
  subst hz hx hy; have h1 := c_lmul x y; have := rng64 (x * y); generalize x.toInt * y.toInt = w at *; omega
theorem n_i2l {x : Int32} {z : Int64} {X : Int} (hz : z = x.toInt64) (hx : x.toInt = X) : z.toInt = X := by subst hz hx; exact c_i2l x
theorem n_irem {x y z : Int32} {X Y : Int} (hz : z = x % y) (hx : x.toInt = X) (hy : y.toInt = Y) (b : 0 ≤ X) : z.toInt = X % Y := by
  subst hz hx; exact (c_irem x y Y hy).1 b
theorem n_idiv {x y z : Int32} {X Y : Int} (hz : z = x / y) (hx : x.toInt = X) (hy : y.toInt = Y) (b : 0 ≤ X ∧ 0 < Y) : z.toInt = X / Y := by
  subst hz hx; exact (c_idiv x y Y hy (fun q => by subst q; have : (-1 : Int32).toInt = -1 := rfl; omega)).1 b.1
theorem n_ldiv {x y z : Int64} {X Y : Int} (hz : z = x / y) (hx : x.toInt = X) (hy : y.toInt = Y) (b : 0 ≤ X ∧ 0 < Y) : z.toInt = X / Y := by
  subst hz hx; exact (c_ldiv x y Y hy (fun q => by subst q; have : (-1 : Int64).toInt = -1 := rfl; omega)).1 b.1
theorem n_mask {x m z : Int32} {X : Int} (k : Nat) (hz : z = x &&& m) (hx : x.toInt = X) (hk : k ≤ 31 ∧ m.toBitVec.toNat = 2 ^ k - 1) : z.toInt = X % (2 ^ k : Nat) := by subst hz hx; exact c_mask x m k hk.1 hk.2
theorem n_maskL {x m z : Int64} {X : Int} (k : Nat) (hz : z = x &&& m) (hx : x.toInt = X) (hk : k ≤ 63 ∧ m.toBitVec.toNat = 2 ^ k - 1) : z.toInt = X % (2 ^ k : Nat) := by subst hz hx; exact c_maskL x m k hk.1 hk.2
theorem n_iushr {x q z : Int32} {X : Int} (k : Nat) (hz : z = (x.toUInt32 >>> (q &&& 31).toUInt32).toInt32) (hx : x.toInt = X) (hk : q.toBitVec.toNat % 32 = k ∧ 0 < k) : z.toInt = (X % 4294967296) / (2 ^ k : Nat) := by subst hz hx; exact c_iushr x q k hk.1 hk.2
theorem n_ishr {x q z : Int32} {X : Int} (k : Nat) (hz : z = x >>> (q &&& 31)) (hx : x.toInt = X) (hk : q.toBitVec.toNat % 32 = k) : z.toInt = X / (2 ^ k : Nat) := by subst hz hx; exact c_ishr x q k hk
theorem n_iremV {x y z : Int32} (hz : z = x % y) (hx : 0 ≤ x.toInt) (hy : 0 < y.toInt) : 0 ≤ z.toInt ∧ z.toInt < y.toInt := by
  subst hz; have := (c_iremV x y).1 hx hy; omega
theorem nzI {y : Int32} (h : ¬ y.toInt = 0) : y ≠ 0 := fun q => h (by rw [q]; rfl)
theorem nzL {y : Int64} (h : ¬ y.toInt = 0) : y ≠ 0 := fun q => h (by rw [q]; rfl)
theorem b8 (x : Int32) : x.toInt8.toInt32.toInt8.toInt32 = x.toInt8.toInt32 := by simp
theorem eqI {x y : Int32} (h : x.toInt = y.toInt) : x = y := Int32.toInt_inj.mp h
theorem eqL {x y : Int64} (h : x.toInt = y.toInt) : x = y := Int64.toInt_inj.mp h
theorem ofI {x : Int32} {X : Int} (h : x.toInt = X) : x = Int32.ofInt X := by rw [← h]; exact (Int32.ofInt_toInt x).symm
theorem ofL {x : Int64} {X : Int} (h : x.toInt = X) : x = Int64.ofInt X := by rw [← h]; exact (Int64.ofInt_toInt x).symm
end Num
end Jvm.Own
namespace Jvm.Pilot.@@N@@
open Jvm Jvm.ClassFile Sem Op Lib Jvm.Free Jvm.Stand Jvm.LawKit Jvm.RoadKit Bundle Jvm.Pilot.@@N@@.Jvm.D
open Jvm.Own
def own_draw (x : Int32) : Int32 := if (x &&& 3).toInt = 0 then 9 else if (x &&& 3).toInt = 1 then 10 else if (x &&& 3).toInt = 2 then 13 else (x >>> ((2 : Int32) &&& 31)).toInt8.toInt32
theorem own_drawb (x : Int32) : (own_draw x).toInt8.toInt32 = own_draw x := by
  unfold own_draw; split
  · rfl
  · split
    · rfl
    · split
      · rfl
      · exact b8 _
/-- what one byte leaves: the array and the place behind -/
def own_put (s : (Nat → Int32) × Nat) (v : Int32) : (Nat → Int32) × Nat :=
  if v.toInt = 9 then (ovr (ovr s.1 s.2 92) (s.2 + 1) 116, s.2 + 2) else if v.toInt = 10 then (ovr (ovr s.1 s.2 92) (s.2 + 1) 110, s.2 + 2) else if v.toInt = 13 then (ovr (ovr s.1 s.2 92) (s.2 + 1) 114, s.2 + 2) else (ovr s.1 s.2 v, s.2 + 1)
def own_run (gv : Nat → Int32) : Nat → Nat → (Nat → Int32) × Nat → (Nat → Int32) × Nat
  | _, 0, s => s
  | i, k + 1, s => own_run gv (i + 1) k (own_put s (gv i))
theorem own_run_s (gv : Nat → Int32) (i k : Nat) (s : (Nat → Int32) × Nat) : own_run gv i (k + 1) s = own_run gv (i + 1) k (own_put s (gv i)) := rfl
theorem own_put_le (s : (Nat → Int32) × Nat) (v : Int32) : (own_put s v).2 ≤ s.2 + 2 := by
  unfold own_put; split
  · exact Nat.le_refl _
  · split
    · exact Nat.le_refl _
    · split
      · exact Nat.le_refl _
      · exact Nat.le_succ _
theorem d1_0 : decode method_3_code 0 = .ok (.iload_n 0, 1) := by decide +kernel
theorem d1_1 : decode method_3_code 1 = .ok (.iconst 3, 1) := by decide +kernel
theorem d1_2 : decode method_3_code 2 = .ok (.iand, 1) := by decide +kernel
theorem d1_3 : decode method_3_code 3 = .ok (.istore_n 1, 1) := by decide +kernel
theorem d1_4 : decode method_3_code 4 = .ok (.iload_n 1, 1) := by decide +kernel
theorem d1_5 : decode method_3_code 5 = .ok (.ifCond .ne 6, 3) := by decide +kernel
theorem d1_8 : decode method_3_code 8 = .ok (.bipush 9, 2) := by decide +kernel
theorem d1_10 : decode method_3_code 10 = .ok (.ireturn, 1) := by decide +kernel
theorem d1_11 : decode method_3_code 11 = .ok (.iload_n 1, 1) := by decide +kernel
theorem d1_12 : decode method_3_code 12 = .ok (.iconst 1, 1) := by decide +kernel
theorem d1_13 : decode method_3_code 13 = .ok (.if_icmp .ne 6, 3) := by decide +kernel
theorem d1_16 : decode method_3_code 16 = .ok (.bipush 10, 2) := by decide +kernel
theorem d1_18 : decode method_3_code 18 = .ok (.ireturn, 1) := by decide +kernel
theorem d1_19 : decode method_3_code 19 = .ok (.iload_n 1, 1) := by decide +kernel
theorem d1_20 : decode method_3_code 20 = .ok (.iconst 2, 1) := by decide +kernel
theorem d1_21 : decode method_3_code 21 = .ok (.if_icmp .ne 6, 3) := by decide +kernel
theorem d1_24 : decode method_3_code 24 = .ok (.bipush 13, 2) := by decide +kernel
theorem d1_26 : decode method_3_code 26 = .ok (.ireturn, 1) := by decide +kernel
theorem d1_27 : decode method_3_code 27 = .ok (.iload_n 0, 1) := by decide +kernel
theorem d1_28 : decode method_3_code 28 = .ok (.iconst 2, 1) := by decide +kernel
theorem d1_29 : decode method_3_code 29 = .ok (.ishr, 1) := by decide +kernel
theorem d1_30 : decode method_3_code 30 = .ok (.i2b, 1) := by decide +kernel
theorem d1_31 : decode method_3_code 31 = .ok (.ireturn, 1) := by decide +kernel
theorem ef_1 (m : MethodId) (u : Int32) : entryFrame m #[(.int u)] 2 = mkF m 0 #[.val (.int u), .unset] [] := by first | (simp [entryFrame, mkF, argsToLocals, Value.category]; done) | rfl
theorem pn_0 : plainName "com/example/sessionloom/sessionloom/TabSeparatedEscapePinLaw" = true := by first | (simp [plainName, overriddenIn]; done) | decide +kernel
abbrev rm_c_draw : Room := { frames := 0, cells := 0, slots := 0, locals := 0 }
set_option maxRecDepth 65536 in
set_option maxHeartbeats 40000000 in
theorem c_draw (l : Launch) (Z : State) (a0 : Array Value) (hw : ∀ d ∈ tables_1, d.before a0 Z = true) (u : Int32)  (h0 : Heap) (n0 : Nat) (low : n0 ≤ h0.size)  :
    Meth l Z (⟨"com/example/sessionloom/sessionloom/TabSeparatedEscapePinLaw", "draw", "(I)B"⟩ : MethodName) method_3_code 2 (some .byte) rm_c_draw #[(.int u)] h0 n0 (Ret (.int (own_draw u)) h0) := by
  refine Meth.of (plainFor_of_name pn_0) low ?_
  intro p e s m args below meth c T P
  refine Ends.cast (ef_1 m u) ?_
  refine iloadN P d1_0 rfl (n := 1) rfl ?_
  refine iconst P d1_1 (x := (3 : Int32)) rfl (n := 2) rfl ?_
  refine iand P d1_2 (n := 3) rfl ?_
  refine istoreN P d1_3 (l' := #[.val (.int u), .val (.int (u &&& (3 : Int32)))]) rfl (n := 4) rfl ?_
  refine iloadN P d1_4 rfl (n := 5) rfl ?_
  refine if0_ne P d1_5 (n' := 11) (n := 8) (by decide) rfl (fun hc5 => ?_) (fun hc5 => ?_)
  · -- pc 5 taken
    replace hc5 : ¬ (u &&& (3 : Int32)).toInt = (0 : Int) := hc5
    refine iloadN P d1_11 rfl (n := 12) rfl ?_
    refine iconst P d1_12 (x := (1 : Int32)) rfl (n := 13) rfl ?_
    refine icmp_ne P d1_13 (n' := 19) (n := 16) (by decide) rfl (fun hc13 => ?_) (fun hc13 => ?_)
    · -- pc 13 taken
      replace hc13 : ¬ (u &&& (3 : Int32)).toInt = (1 : Int) := hc13
      refine iloadN P d1_19 rfl (n := 20) rfl ?_
      refine iconst P d1_20 (x := (2 : Int32)) rfl (n := 21) rfl ?_
      refine icmp_ne P d1_21 (n' := 27) (n := 24) (by decide) rfl (fun hc21 => ?_) (fun hc21 => ?_)
      · -- pc 21 taken
        replace hc21 : ¬ (u &&& (3 : Int32)).toInt = (2 : Int) := hc21
        refine iloadN P d1_27 rfl (n := 28) rfl ?_
        refine iconst P d1_28 (x := (2 : Int32)) rfl (n := 29) rfl ?_
        refine ishr P d1_29 (n := 30) rfl ?_
        refine i2b P d1_30 (n := 31) rfl ?_
        refine retB P d1_31 (b8 _) (by decide) (by decide) ?_
        refine Ret.ofI ?_
        unfold own_draw
        rw [if_neg hc5, if_neg hc13, if_neg hc21]
      · -- pc 21 not taken
        replace hc21 : (u &&& (3 : Int32)).toInt = (2 : Int) := hc21
        refine bipush P d1_24 (x := (13 : Int32)) rfl (n := 26) rfl ?_
        refine retB P d1_26 (by decide) (by decide) (by decide) ?_
        refine Ret.ofI ?_
        unfold own_draw
        rw [if_neg hc5, if_neg hc13, if_pos hc21]
    · -- pc 13 not taken
      replace hc13 : (u &&& (3 : Int32)).toInt = (1 : Int) := hc13
      refine bipush P d1_16 (x := (10 : Int32)) rfl (n := 18) rfl ?_
      refine retB P d1_18 (by decide) (by decide) (by decide) ?_
      refine Ret.ofI ?_
      unfold own_draw
      rw [if_neg hc5, if_pos hc13]
  · -- pc 5 not taken
    replace hc5 : (u &&& (3 : Int32)).toInt = (0 : Int) := hc5
    refine bipush P d1_8 (x := (9 : Int32)) rfl (n := 10) rfl ?_
    refine retB P d1_10 (by decide) (by decide) (by decide) ?_
    refine Ret.ofI ?_
    unfold own_draw
    rw [if_pos hc5]
theorem d2_0 : decode method_5_code 0 = .ok (.aload_n 0, 1) := by decide +kernel
theorem d2_1 : decode method_5_code 1 = .ok (.iconst 0, 1) := by decide +kernel
theorem d2_2 : decode method_5_code 2 = .ok (.iload_n 1, 1) := by decide +kernel
theorem d2_3 : decode method_5_code 3 = .ok (.bastore, 1) := by decide +kernel
theorem d2_4 : decode method_5_code 4 = .ok (.aload_n 0, 1) := by decide +kernel
theorem d2_5 : decode method_5_code 5 = .ok (.iconst 1, 1) := by decide +kernel
theorem d2_6 : decode method_5_code 6 = .ok (.iload_n 1, 1) := by decide +kernel
theorem d2_7 : decode method_5_code 7 = .ok (.bastore, 1) := by decide +kernel
theorem d2_8 : decode method_5_code 8 = .ok (.aload_n 0, 1) := by decide +kernel
theorem d2_9 : decode method_5_code 9 = .ok (.iconst 2, 1) := by decide +kernel
theorem d2_10 : decode method_5_code 10 = .ok (.iload_n 1, 1) := by decide +kernel
theorem d2_11 : decode method_5_code 11 = .ok (.bastore, 1) := by decide +kernel
theorem d2_12 : decode method_5_code 12 = .ok (.aload_n 0, 1) := by decide +kernel
theorem d2_13 : decode method_5_code 13 = .ok (.iconst 3, 1) := by decide +kernel
theorem d2_14 : decode method_5_code 14 = .ok (.iload_n 1, 1) := by decide +kernel
theorem d2_15 : decode method_5_code 15 = .ok (.bastore, 1) := by decide +kernel
theorem d2_16 : decode method_5_code 16 = .ok (.aload_n 0, 1) := by decide +kernel
theorem d2_17 : decode method_5_code 17 = .ok (.iconst 4, 1) := by decide +kernel
theorem d2_18 : decode method_5_code 18 = .ok (.iload_n 1, 1) := by decide +kernel
theorem d2_19 : decode method_5_code 19 = .ok (.bastore, 1) := by decide +kernel
theorem d2_20 : decode method_5_code 20 = .ok (.aload_n 0, 1) := by decide +kernel
theorem d2_21 : decode method_5_code 21 = .ok (.iconst 5, 1) := by decide +kernel
theorem d2_22 : decode method_5_code 22 = .ok (.iload_n 1, 1) := by decide +kernel
theorem d2_23 : decode method_5_code 23 = .ok (.bastore, 1) := by decide +kernel
theorem d2_24 : decode method_5_code 24 = .ok (.aload_n 0, 1) := by decide +kernel
theorem d2_25 : decode method_5_code 25 = .ok (.bipush 6, 2) := by decide +kernel
theorem d2_27 : decode method_5_code 27 = .ok (.iload_n 1, 1) := by decide +kernel
theorem d2_28 : decode method_5_code 28 = .ok (.bastore, 1) := by decide +kernel
theorem d2_29 : decode method_5_code 29 = .ok (.aload_n 0, 1) := by decide +kernel
theorem d2_30 : decode method_5_code 30 = .ok (.bipush 7, 2) := by decide +kernel
theorem d2_32 : decode method_5_code 32 = .ok (.iload_n 1, 1) := by decide +kernel
theorem d2_33 : decode method_5_code 33 = .ok (.bastore, 1) := by decide +kernel
theorem d2_34 : decode method_5_code 34 = .ok (.aload_n 0, 1) := by decide +kernel
theorem d2_35 : decode method_5_code 35 = .ok (.bipush 8, 2) := by decide +kernel
theorem d2_37 : decode method_5_code 37 = .ok (.iload_n 1, 1) := by decide +kernel
theorem d2_38 : decode method_5_code 38 = .ok (.bastore, 1) := by decide +kernel
theorem d2_39 : decode method_5_code 39 = .ok (.aload_n 0, 1) := by decide +kernel
theorem d2_40 : decode method_5_code 40 = .ok (.bipush 9, 2) := by decide +kernel
theorem d2_42 : decode method_5_code 42 = .ok (.iload_n 1, 1) := by decide +kernel
theorem d2_43 : decode method_5_code 43 = .ok (.bastore, 1) := by decide +kernel
theorem d2_44 : decode method_5_code 44 = .ok (.return_, 1) := by decide +kernel
theorem ef_2 (m : MethodId) (a : Addr) (sv : Int32) : entryFrame m #[(.ref a), (.int sv)] 2 = mkF m 0 #[.val (.ref a), .val (.int sv)] [] := by first | (simp [entryFrame, mkF, argsToLocals, Value.category]; done) | rfl
abbrev rm_c_fill : Room := { frames := 0, cells := 0, slots := 0, locals := 0 }
set_option maxRecDepth 65536 in
set_option maxHeartbeats 40000000 in
theorem c_fill (l : Launch) (Z : State) (a0 : Array Value) (hw : ∀ d ∈ tables_1, d.before a0 Z = true) (a : Addr) (sv : Int32) (g : Nat → Int32) (h0 : Heap) (n0 : Nat) (low : n0 ≤ h0.size) (A_a : ARI Z h0 a .byte 10 g) (lo : n0 ≤ a) (hb : sv.toInt8.toInt32 = sv) :
    Meth l Z (⟨"com/example/sessionloom/sessionloom/TabSeparatedEscapePinLaw", "fill", "([BB)V"⟩ : MethodName) method_5_code 2 none rm_c_fill #[(.ref a), (.int sv)] h0 n0 (fun v h => v = none ∧ ARI Z h a .byte 10 (fun _ => sv) ∧ Keep h0 h [a]) := by
  refine Meth.of (plainFor_of_name pn_0) low ?_
  intro p e s m args below meth c T P
  refine Ends.cast (ef_2 m a sv) ?_
  have K := Keep.refl h0 [a]
  refine aloadN P d2_0 rfl rfl (n := 1) rfl ?_
  refine iconst P d2_1 (x := (0 : Int32)) rfl (n := 2) rfl ?_
  refine iloadN P d2_2 rfl (n := 3) rfl ?_
  refine stB P d2_3 A_a (u := 0) ⟨rfl, by decide⟩ lo (n := 4) rfl ?_
  intro T h1 P W2
  rw [show sv.toInt8.toInt32 = sv from hb] at W2
  replace A_a := ARI.set A_a W2
  have K := Keep.wr K W2 (Or.inl (by simp))
  refine aloadN P d2_4 rfl rfl (n := 5) rfl ?_
  refine iconst P d2_5 (x := (1 : Int32)) rfl (n := 6) rfl ?_
  refine iloadN P d2_6 rfl (n := 7) rfl ?_
  refine stB P d2_7 A_a (u := 1) ⟨rfl, by decide⟩ lo (n := 8) rfl ?_
  intro T h3 P W4
  rw [show sv.toInt8.toInt32 = sv from hb] at W4
  replace A_a := ARI.set A_a W4
  have K := Keep.wr K W4 (Or.inl (by simp))
  refine aloadN P d2_8 rfl rfl (n := 9) rfl ?_
  refine iconst P d2_9 (x := (2 : Int32)) rfl (n := 10) rfl ?_
  refine iloadN P d2_10 rfl (n := 11) rfl ?_
  refine stB P d2_11 A_a (u := 2) ⟨rfl, by decide⟩ lo (n := 12) rfl ?_
  intro T h5 P W6
  rw [show sv.toInt8.toInt32 = sv from hb] at W6
  replace A_a := ARI.set A_a W6
  have K := Keep.wr K W6 (Or.inl (by simp))
  refine aloadN P d2_12 rfl rfl (n := 13) rfl ?_
  refine iconst P d2_13 (x := (3 : Int32)) rfl (n := 14) rfl ?_
  refine iloadN P d2_14 rfl (n := 15) rfl ?_
  refine stB P d2_15 A_a (u := 3) ⟨rfl, by decide⟩ lo (n := 16) rfl ?_
  intro T h7 P W8
  rw [show sv.toInt8.toInt32 = sv from hb] at W8
  replace A_a := ARI.set A_a W8
  have K := Keep.wr K W8 (Or.inl (by simp))
  refine aloadN P d2_16 rfl rfl (n := 17) rfl ?_
  refine iconst P d2_17 (x := (4 : Int32)) rfl (n := 18) rfl ?_
  refine iloadN P d2_18 rfl (n := 19) rfl ?_
  refine stB P d2_19 A_a (u := 4) ⟨rfl, by decide⟩ lo (n := 20) rfl ?_
  intro T h9 P W10
  rw [show sv.toInt8.toInt32 = sv from hb] at W10
  replace A_a := ARI.set A_a W10
  have K := Keep.wr K W10 (Or.inl (by simp))
  refine aloadN P d2_20 rfl rfl (n := 21) rfl ?_
  refine iconst P d2_21 (x := (5 : Int32)) rfl (n := 22) rfl ?_
  refine iloadN P d2_22 rfl (n := 23) rfl ?_
  refine stB P d2_23 A_a (u := 5) ⟨rfl, by decide⟩ lo (n := 24) rfl ?_
  intro T h11 P W12
  rw [show sv.toInt8.toInt32 = sv from hb] at W12
  replace A_a := ARI.set A_a W12
  have K := Keep.wr K W12 (Or.inl (by simp))
  refine aloadN P d2_24 rfl rfl (n := 25) rfl ?_
  refine bipush P d2_25 (x := (6 : Int32)) rfl (n := 27) rfl ?_
  refine iloadN P d2_27 rfl (n := 28) rfl ?_
  refine stB P d2_28 A_a (u := 6) ⟨rfl, by decide⟩ lo (n := 29) rfl ?_
  intro T h13 P W14
  rw [show sv.toInt8.toInt32 = sv from hb] at W14
  replace A_a := ARI.set A_a W14
  have K := Keep.wr K W14 (Or.inl (by simp))
  refine aloadN P d2_29 rfl rfl (n := 30) rfl ?_
  refine bipush P d2_30 (x := (7 : Int32)) rfl (n := 32) rfl ?_
  refine iloadN P d2_32 rfl (n := 33) rfl ?_
  refine stB P d2_33 A_a (u := 7) ⟨rfl, by decide⟩ lo (n := 34) rfl ?_
  intro T h15 P W16
  rw [show sv.toInt8.toInt32 = sv from hb] at W16
  replace A_a := ARI.set A_a W16
  have K := Keep.wr K W16 (Or.inl (by simp))
  refine aloadN P d2_34 rfl rfl (n := 35) rfl ?_
  refine bipush P d2_35 (x := (8 : Int32)) rfl (n := 37) rfl ?_
  refine iloadN P d2_37 rfl (n := 38) rfl ?_
  refine stB P d2_38 A_a (u := 8) ⟨rfl, by decide⟩ lo (n := 39) rfl ?_
  intro T h17 P W18
  rw [show sv.toInt8.toInt32 = sv from hb] at W18
  replace A_a := ARI.set A_a W18
  have K := Keep.wr K W18 (Or.inl (by simp))
  refine aloadN P d2_39 rfl rfl (n := 40) rfl ?_
  refine bipush P d2_40 (x := (9 : Int32)) rfl (n := 42) rfl ?_
  refine iloadN P d2_42 rfl (n := 43) rfl ?_
  refine stB P d2_43 A_a (u := 9) ⟨rfl, by decide⟩ lo (n := 44) rfl ?_
  intro T h19 P W20
  rw [show sv.toInt8.toInt32 = sv from hb] at W20
  replace A_a := ARI.set A_a W20
  have K := Keep.wr K W20 (Or.inl (by simp))
  refine retV P d2_44 (by decide) (by decide) ?_
  refine ⟨rfl, AR.congr A_a fun i hi => ?_, K⟩
  have hk : i = 0 ∨ i = 1 ∨ i = 2 ∨ i = 3 ∨ i = 4 ∨ i = 5 ∨ i = 6 ∨ i = 7 ∨ i = 8 ∨ i = 9 := by omega
  rcases hk with rfl | rfl | rfl | rfl | rfl | rfl | rfl | rfl | rfl | rfl <;> simp [ovr]
theorem d5_0 : decode method_4_code 0 = .ok (.iload_n 2, 1) := by decide +kernel
theorem d5_1 : decode method_4_code 1 = .ok (.bipush 9, 2) := by decide +kernel
theorem d5_3 : decode method_4_code 3 = .ok (.if_icmp .ne 19, 3) := by decide +kernel
theorem d5_6 : decode method_4_code 6 = .ok (.aload_n 0, 1) := by decide +kernel
theorem d5_7 : decode method_4_code 7 = .ok (.iload_n 1, 1) := by decide +kernel
theorem d5_8 : decode method_4_code 8 = .ok (.bipush 92, 2) := by decide +kernel
theorem d5_10 : decode method_4_code 10 = .ok (.bastore, 1) := by decide +kernel
theorem d5_11 : decode method_4_code 11 = .ok (.aload_n 0, 1) := by decide +kernel
theorem d5_12 : decode method_4_code 12 = .ok (.iload_n 1, 1) := by decide +kernel
theorem d5_13 : decode method_4_code 13 = .ok (.iconst 1, 1) := by decide +kernel
theorem d5_14 : decode method_4_code 14 = .ok (.iadd, 1) := by decide +kernel
theorem d5_15 : decode method_4_code 15 = .ok (.bipush 116, 2) := by decide +kernel
theorem d5_17 : decode method_4_code 17 = .ok (.bastore, 1) := by decide +kernel
theorem d5_18 : decode method_4_code 18 = .ok (.iload_n 1, 1) := by decide +kernel
theorem d5_19 : decode method_4_code 19 = .ok (.iconst 2, 1) := by decide +kernel
theorem d5_20 : decode method_4_code 20 = .ok (.iadd, 1) := by decide +kernel
theorem d5_21 : decode method_4_code 21 = .ok (.ireturn, 1) := by decide +kernel
theorem d5_22 : decode method_4_code 22 = .ok (.iload_n 2, 1) := by decide +kernel
theorem d5_23 : decode method_4_code 23 = .ok (.bipush 10, 2) := by decide +kernel
theorem d5_25 : decode method_4_code 25 = .ok (.if_icmp .ne 19, 3) := by decide +kernel
theorem d5_28 : decode method_4_code 28 = .ok (.aload_n 0, 1) := by decide +kernel
theorem d5_29 : decode method_4_code 29 = .ok (.iload_n 1, 1) := by decide +kernel
theorem d5_30 : decode method_4_code 30 = .ok (.bipush 92, 2) := by decide +kernel
theorem d5_32 : decode method_4_code 32 = .ok (.bastore, 1) := by decide +kernel
theorem d5_33 : decode method_4_code 33 = .ok (.aload_n 0, 1) := by decide +kernel
theorem d5_34 : decode method_4_code 34 = .ok (.iload_n 1, 1) := by decide +kernel
theorem d5_35 : decode method_4_code 35 = .ok (.iconst 1, 1) := by decide +kernel
theorem d5_36 : decode method_4_code 36 = .ok (.iadd, 1) := by decide +kernel
theorem d5_37 : decode method_4_code 37 = .ok (.bipush 110, 2) := by decide +kernel
theorem d5_39 : decode method_4_code 39 = .ok (.bastore, 1) := by decide +kernel
theorem d5_40 : decode method_4_code 40 = .ok (.iload_n 1, 1) := by decide +kernel
theorem d5_41 : decode method_4_code 41 = .ok (.iconst 2, 1) := by decide +kernel
theorem d5_42 : decode method_4_code 42 = .ok (.iadd, 1) := by decide +kernel
theorem d5_43 : decode method_4_code 43 = .ok (.ireturn, 1) := by decide +kernel
theorem d5_44 : decode method_4_code 44 = .ok (.iload_n 2, 1) := by decide +kernel
theorem d5_45 : decode method_4_code 45 = .ok (.bipush 13, 2) := by decide +kernel
theorem d5_47 : decode method_4_code 47 = .ok (.if_icmp .ne 19, 3) := by decide +kernel
theorem d5_50 : decode method_4_code 50 = .ok (.aload_n 0, 1) := by decide +kernel
theorem d5_51 : decode method_4_code 51 = .ok (.iload_n 1, 1) := by decide +kernel
theorem d5_52 : decode method_4_code 52 = .ok (.bipush 92, 2) := by decide +kernel
theorem d5_54 : decode method_4_code 54 = .ok (.bastore, 1) := by decide +kernel
theorem d5_55 : decode method_4_code 55 = .ok (.aload_n 0, 1) := by decide +kernel
theorem d5_56 : decode method_4_code 56 = .ok (.iload_n 1, 1) := by decide +kernel
theorem d5_57 : decode method_4_code 57 = .ok (.iconst 1, 1) := by decide +kernel
theorem d5_58 : decode method_4_code 58 = .ok (.iadd, 1) := by decide +kernel
theorem d5_59 : decode method_4_code 59 = .ok (.bipush 114, 2) := by decide +kernel
theorem d5_61 : decode method_4_code 61 = .ok (.bastore, 1) := by decide +kernel
theorem d5_62 : decode method_4_code 62 = .ok (.iload_n 1, 1) := by decide +kernel
theorem d5_63 : decode method_4_code 63 = .ok (.iconst 2, 1) := by decide +kernel
theorem d5_64 : decode method_4_code 64 = .ok (.iadd, 1) := by decide +kernel
theorem d5_65 : decode method_4_code 65 = .ok (.ireturn, 1) := by decide +kernel
theorem d5_66 : decode method_4_code 66 = .ok (.aload_n 0, 1) := by decide +kernel
theorem d5_67 : decode method_4_code 67 = .ok (.iload_n 1, 1) := by decide +kernel
theorem d5_68 : decode method_4_code 68 = .ok (.iload_n 2, 1) := by decide +kernel
theorem d5_69 : decode method_4_code 69 = .ok (.bastore, 1) := by decide +kernel
theorem d5_70 : decode method_4_code 70 = .ok (.iload_n 1, 1) := by decide +kernel
theorem d5_71 : decode method_4_code 71 = .ok (.iconst 1, 1) := by decide +kernel
theorem d5_72 : decode method_4_code 72 = .ok (.iadd, 1) := by decide +kernel
theorem d5_73 : decode method_4_code 73 = .ok (.ireturn, 1) := by decide +kernel
theorem ef_5 (m : MethodId) (a : Addr) (ps : Int32) (v : Int32) : entryFrame m #[(.ref a), (.int ps), (.int v)] 3 = mkF m 0 #[.val (.ref a), .val (.int ps), .val (.int v)] [] := by first | (simp [entryFrame, mkF, argsToLocals, Value.category]; done) | rfl
abbrev rm_c_put : Room := { frames := 0, cells := 0, slots := 0, locals := 0 }
set_option maxRecDepth 65536 in
set_option maxHeartbeats 40000000 in
theorem c_put (l : Launch) (Z : State) (a0 : Array Value) (hw : ∀ d ∈ tables_1, d.before a0 Z = true) (a : Addr) (ps : Int32) (v : Int32) (g : Nat → Int32) (k : Nat) (h0 : Heap) (n0 : Nat) (low : n0 ≤ h0.size) (A_a : ARI Z h0 a .byte 10 g) (lo : n0 ≤ a) (hk : ps.toInt = k ∧ k + 2 ≤ 10) (hb : v.toInt8.toInt32 = v) :
    Meth l Z (⟨"com/example/sessionloom/sessionloom/TabSeparatedEscapePinLaw", "put", "([BIB)I"⟩ : MethodName) method_4_code 3 (some .int) rm_c_put #[(.ref a), (.int ps), (.int v)] h0 n0 (fun r h => ∃ z, r = some (.int z) ∧ z.toInt = ((own_put (g, k) v).2 : Nat) ∧ ARI Z h a .byte 10 (own_put (g, k) v).1 ∧ Keep h0 h [a]) := by
  refine Meth.of (plainFor_of_name pn_0) low ?_
  intro p e s m args below meth c T P
  refine Ends.cast (ef_5 m a ps v) ?_
  have K := Keep.refl h0 [a]
  refine iloadN P d5_0 rfl (n := 1) rfl ?_
  refine bipush P d5_1 (x := (9 : Int32)) rfl (n := 3) rfl ?_
  refine icmp_ne P d5_3 (n' := 22) (n := 6) (by decide) rfl (fun hc3 => ?_) (fun hc3 => ?_)
  · -- pc 3 taken
    replace hc3 : ¬ v.toInt = (9 : Int) := hc3
    refine iloadN P d5_22 rfl (n := 23) rfl ?_
    refine bipush P d5_23 (x := (10 : Int32)) rfl (n := 25) rfl ?_
    refine icmp_ne P d5_25 (n' := 44) (n := 28) (by decide) rfl (fun hc25 => ?_) (fun hc25 => ?_)
    · -- pc 25 taken
      replace hc25 : ¬ v.toInt = (10 : Int) := hc25
      refine iloadN P d5_44 rfl (n := 45) rfl ?_
      refine bipush P d5_45 (x := (13 : Int32)) rfl (n := 47) rfl ?_
      refine icmp_ne P d5_47 (n' := 66) (n := 50) (by decide) rfl (fun hc47 => ?_) (fun hc47 => ?_)
      · -- pc 47 taken
        replace hc47 : ¬ v.toInt = (13 : Int) := hc47
        refine aloadN P d5_66 rfl rfl (n := 67) rfl ?_
        refine iloadN P d5_67 rfl (n := 68) rfl ?_
        refine iloadN P d5_68 rfl (n := 69) rfl ?_
        refine stB P d5_69 A_a (u := k) ⟨hk.1, by omega⟩ lo (n := 70) rfl ?_
        intro T h1 P W2
        rw [show v.toInt8.toInt32 = v from hb] at W2
        replace A_a := ARI.set A_a W2
        have K := Keep.wr K W2 (Or.inl (by simp))
        refine iloadN P d5_70 rfl (n := 71) rfl ?_
        refine iconst P d5_71 (x := (1 : Int32)) rfl (n := 72) rfl ?_
        refine iadd P d5_72 (n := 73) rfl ?_
        refine nameI (x := (ps + (1 : Int32))) (F := fun z3 => Jvm.Own.Ends p e below s rm_c_put n0 (fun r h => ∃ z, r = some (.int z) ∧ z.toInt = ((own_put (g, k) v).2 : Nat) ∧ ARI Z h a .byte 10 (own_put (g, k) v).1 ∧ Keep h0 h [a]) T (mkF m 73 #[.val (.ref a), .val (.int ps), .val (.int v)] [(.int z3)])) ?_
        intro z3 hz3
        have tz3 : z3.toInt = ps.toInt + (1 : Int) := n_iadd hz3 rfl rfl (by omega)
        refine retI P d5_73 (by decide) (by decide) ?_
        have e9 : own_put (g, k) v = ((ovr g k (v)), k + 1) := by unfold own_put; rw [if_neg hc3, if_neg hc25, if_neg hc47]
        rw [e9]
        exact ⟨_, rfl, by show _ = ((k + 1 : Nat) : Int); omega, A_a, K⟩
      · -- pc 47 not taken
        replace hc47 : v.toInt = (13 : Int) := hc47
        refine aloadN P d5_50 rfl rfl (n := 51) rfl ?_
        refine iloadN P d5_51 rfl (n := 52) rfl ?_
        refine bipush P d5_52 (x := (92 : Int32)) rfl (n := 54) rfl ?_
        refine stB P d5_54 A_a (u := k) ⟨hk.1, by omega⟩ lo (n := 55) rfl ?_
        intro T h4 P W5
        rw [show (92 : Int32).toInt8.toInt32 = (92 : Int32) from (by decide)] at W5
        replace A_a := ARI.set A_a W5
        have K := Keep.wr K W5 (Or.inl (by simp))
        refine aloadN P d5_55 rfl rfl (n := 56) rfl ?_
        refine iloadN P d5_56 rfl (n := 57) rfl ?_
        refine iconst P d5_57 (x := (1 : Int32)) rfl (n := 58) rfl ?_
        refine iadd P d5_58 (n := 59) rfl ?_
        refine nameI (x := (ps + (1 : Int32))) (F := fun z6 => Jvm.Own.Ends p e below s rm_c_put n0 (fun r h => ∃ z, r = some (.int z) ∧ z.toInt = ((own_put (g, k) v).2 : Nat) ∧ ARI Z h a .byte 10 (own_put (g, k) v).1 ∧ Keep h0 h [a]) T (mkF m 59 #[.val (.ref a), .val (.int ps), .val (.int v)] [(.int z6), (.ref a)])) ?_
        intro z6 hz6
        have tz6 : z6.toInt = ps.toInt + (1 : Int) := n_iadd hz6 rfl rfl (by omega)
        refine bipush P d5_59 (x := (114 : Int32)) rfl (n := 61) rfl ?_
        refine stB P d5_61 A_a (u := (k + 1)) ⟨by omega, by omega⟩ lo (n := 62) rfl ?_
        intro T h7 P W8
        rw [show (114 : Int32).toInt8.toInt32 = (114 : Int32) from (by decide)] at W8
        replace A_a := ARI.set A_a W8
        have K := Keep.wr K W8 (Or.inl (by simp))
        refine iloadN P d5_62 rfl (n := 63) rfl ?_
        refine iconst P d5_63 (x := (2 : Int32)) rfl (n := 64) rfl ?_
        refine iadd P d5_64 (n := 65) rfl ?_
        refine nameI (x := (ps + (2 : Int32))) (F := fun z9 => Jvm.Own.Ends p e below s rm_c_put n0 (fun r h => ∃ z, r = some (.int z) ∧ z.toInt = ((own_put (g, k) v).2 : Nat) ∧ ARI Z h a .byte 10 (own_put (g, k) v).1 ∧ Keep h0 h [a]) T (mkF m 65 #[.val (.ref a), .val (.int ps), .val (.int v)] [(.int z9)])) ?_
        intro z9 hz9
        have tz9 : z9.toInt = ps.toInt + (2 : Int) := n_iadd hz9 rfl rfl (by omega)
        refine retI P d5_65 (by decide) (by decide) ?_
        have e9 : own_put (g, k) v = ((ovr (ovr g k ((92 : Int32))) (k + 1) ((114 : Int32))), k + 2) := by unfold own_put; rw [if_neg hc3, if_neg hc25, if_pos hc47]
        rw [e9]
        exact ⟨_, rfl, by show _ = ((k + 2 : Nat) : Int); omega, A_a, K⟩
    · -- pc 25 not taken
      replace hc25 : v.toInt = (10 : Int) := hc25
      refine aloadN P d5_28 rfl rfl (n := 29) rfl ?_
      refine iloadN P d5_29 rfl (n := 30) rfl ?_
      refine bipush P d5_30 (x := (92 : Int32)) rfl (n := 32) rfl ?_
      refine stB P d5_32 A_a (u := k) ⟨hk.1, by omega⟩ lo (n := 33) rfl ?_
      intro T h10 P W11
      rw [show (92 : Int32).toInt8.toInt32 = (92 : Int32) from (by decide)] at W11
      replace A_a := ARI.set A_a W11
      have K := Keep.wr K W11 (Or.inl (by simp))
      refine aloadN P d5_33 rfl rfl (n := 34) rfl ?_
      refine iloadN P d5_34 rfl (n := 35) rfl ?_
      refine iconst P d5_35 (x := (1 : Int32)) rfl (n := 36) rfl ?_
      refine iadd P d5_36 (n := 37) rfl ?_
      refine nameI (x := (ps + (1 : Int32))) (F := fun z12 => Jvm.Own.Ends p e below s rm_c_put n0 (fun r h => ∃ z, r = some (.int z) ∧ z.toInt = ((own_put (g, k) v).2 : Nat) ∧ ARI Z h a .byte 10 (own_put (g, k) v).1 ∧ Keep h0 h [a]) T (mkF m 37 #[.val (.ref a), .val (.int ps), .val (.int v)] [(.int z12), (.ref a)])) ?_
      intro z12 hz12
      have tz12 : z12.toInt = ps.toInt + (1 : Int) := n_iadd hz12 rfl rfl (by omega)
      refine bipush P d5_37 (x := (110 : Int32)) rfl (n := 39) rfl ?_
      refine stB P d5_39 A_a (u := (k + 1)) ⟨by omega, by omega⟩ lo (n := 40) rfl ?_
      intro T h13 P W14
      rw [show (110 : Int32).toInt8.toInt32 = (110 : Int32) from (by decide)] at W14
      replace A_a := ARI.set A_a W14
      have K := Keep.wr K W14 (Or.inl (by simp))
      refine iloadN P d5_40 rfl (n := 41) rfl ?_
      refine iconst P d5_41 (x := (2 : Int32)) rfl (n := 42) rfl ?_
      refine iadd P d5_42 (n := 43) rfl ?_
      refine nameI (x := (ps + (2 : Int32))) (F := fun z15 => Jvm.Own.Ends p e below s rm_c_put n0 (fun r h => ∃ z, r = some (.int z) ∧ z.toInt = ((own_put (g, k) v).2 : Nat) ∧ ARI Z h a .byte 10 (own_put (g, k) v).1 ∧ Keep h0 h [a]) T (mkF m 43 #[.val (.ref a), .val (.int ps), .val (.int v)] [(.int z15)])) ?_
      intro z15 hz15
      have tz15 : z15.toInt = ps.toInt + (2 : Int) := n_iadd hz15 rfl rfl (by omega)
      refine retI P d5_43 (by decide) (by decide) ?_
      have e9 : own_put (g, k) v = ((ovr (ovr g k ((92 : Int32))) (k + 1) ((110 : Int32))), k + 2) := by unfold own_put; rw [if_neg hc3, if_pos hc25]
      rw [e9]
      exact ⟨_, rfl, by show _ = ((k + 2 : Nat) : Int); omega, A_a, K⟩
  · -- pc 3 not taken
    replace hc3 : v.toInt = (9 : Int) := hc3
    refine aloadN P d5_6 rfl rfl (n := 7) rfl ?_
    refine iloadN P d5_7 rfl (n := 8) rfl ?_
    refine bipush P d5_8 (x := (92 : Int32)) rfl (n := 10) rfl ?_
    refine stB P d5_10 A_a (u := k) ⟨hk.1, by omega⟩ lo (n := 11) rfl ?_
    intro T h16 P W17
    rw [show (92 : Int32).toInt8.toInt32 = (92 : Int32) from (by decide)] at W17
    replace A_a := ARI.set A_a W17
    have K := Keep.wr K W17 (Or.inl (by simp))
    refine aloadN P d5_11 rfl rfl (n := 12) rfl ?_
    refine iloadN P d5_12 rfl (n := 13) rfl ?_
    refine iconst P d5_13 (x := (1 : Int32)) rfl (n := 14) rfl ?_
    refine iadd P d5_14 (n := 15) rfl ?_
    refine nameI (x := (ps + (1 : Int32))) (F := fun z18 => Jvm.Own.Ends p e below s rm_c_put n0 (fun r h => ∃ z, r = some (.int z) ∧ z.toInt = ((own_put (g, k) v).2 : Nat) ∧ ARI Z h a .byte 10 (own_put (g, k) v).1 ∧ Keep h0 h [a]) T (mkF m 15 #[.val (.ref a), .val (.int ps), .val (.int v)] [(.int z18), (.ref a)])) ?_
    intro z18 hz18
    have tz18 : z18.toInt = ps.toInt + (1 : Int) := n_iadd hz18 rfl rfl (by omega)
    refine bipush P d5_15 (x := (116 : Int32)) rfl (n := 17) rfl ?_
    refine stB P d5_17 A_a (u := (k + 1)) ⟨by omega, by omega⟩ lo (n := 18) rfl ?_
    intro T h19 P W20
    rw [show (116 : Int32).toInt8.toInt32 = (116 : Int32) from (by decide)] at W20
    replace A_a := ARI.set A_a W20
    have K := Keep.wr K W20 (Or.inl (by simp))
    refine iloadN P d5_18 rfl (n := 19) rfl ?_
    refine iconst P d5_19 (x := (2 : Int32)) rfl (n := 20) rfl ?_
    refine iadd P d5_20 (n := 21) rfl ?_
    refine nameI (x := (ps + (2 : Int32))) (F := fun z21 => Jvm.Own.Ends p e below s rm_c_put n0 (fun r h => ∃ z, r = some (.int z) ∧ z.toInt = ((own_put (g, k) v).2 : Nat) ∧ ARI Z h a .byte 10 (own_put (g, k) v).1 ∧ Keep h0 h [a]) T (mkF m 21 #[.val (.ref a), .val (.int ps), .val (.int v)] [(.int z21)])) ?_
    intro z21 hz21
    have tz21 : z21.toInt = ps.toInt + (2 : Int) := n_iadd hz21 rfl rfl (by omega)
    refine retI P d5_21 (by decide) (by decide) ?_
    have e9 : own_put (g, k) v = ((ovr (ovr g k ((92 : Int32))) (k + 1) ((116 : Int32))), k + 2) := by unfold own_put; rw [if_pos hc3]
    rw [e9]
    exact ⟨_, rfl, by show _ = ((k + 2 : Nat) : Int); omega, A_a, K⟩
theorem d4_0 : decode method_6_code 0 = .ok (.aload_n 0, 1) := by decide +kernel
theorem d4_1 : decode method_6_code 1 = .ok (.iconst 0, 1) := by decide +kernel
theorem d4_2 : decode method_6_code 2 = .ok (.baload, 1) := by decide +kernel
theorem d4_3 : decode method_6_code 3 = .ok (.aload_n 1, 1) := by decide +kernel
theorem d4_4 : decode method_6_code 4 = .ok (.iconst 0, 1) := by decide +kernel
theorem d4_5 : decode method_6_code 5 = .ok (.baload, 1) := by decide +kernel
theorem d4_6 : decode method_6_code 6 = .ok (.if_icmp .ne 96, 3) := by decide +kernel
theorem d4_9 : decode method_6_code 9 = .ok (.aload_n 0, 1) := by decide +kernel
theorem d4_10 : decode method_6_code 10 = .ok (.iconst 1, 1) := by decide +kernel
theorem d4_11 : decode method_6_code 11 = .ok (.baload, 1) := by decide +kernel
theorem d4_12 : decode method_6_code 12 = .ok (.aload_n 1, 1) := by decide +kernel
theorem d4_13 : decode method_6_code 13 = .ok (.iconst 1, 1) := by decide +kernel
theorem d4_14 : decode method_6_code 14 = .ok (.baload, 1) := by decide +kernel
theorem d4_15 : decode method_6_code 15 = .ok (.if_icmp .ne 87, 3) := by decide +kernel
theorem d4_18 : decode method_6_code 18 = .ok (.aload_n 0, 1) := by decide +kernel
theorem d4_19 : decode method_6_code 19 = .ok (.iconst 2, 1) := by decide +kernel
theorem d4_20 : decode method_6_code 20 = .ok (.baload, 1) := by decide +kernel
theorem d4_21 : decode method_6_code 21 = .ok (.aload_n 1, 1) := by decide +kernel
theorem d4_22 : decode method_6_code 22 = .ok (.iconst 2, 1) := by decide +kernel
theorem d4_23 : decode method_6_code 23 = .ok (.baload, 1) := by decide +kernel
theorem d4_24 : decode method_6_code 24 = .ok (.if_icmp .ne 78, 3) := by decide +kernel
theorem d4_27 : decode method_6_code 27 = .ok (.aload_n 0, 1) := by decide +kernel
theorem d4_28 : decode method_6_code 28 = .ok (.iconst 3, 1) := by decide +kernel
theorem d4_29 : decode method_6_code 29 = .ok (.baload, 1) := by decide +kernel
theorem d4_30 : decode method_6_code 30 = .ok (.aload_n 1, 1) := by decide +kernel
theorem d4_31 : decode method_6_code 31 = .ok (.iconst 3, 1) := by decide +kernel
theorem d4_32 : decode method_6_code 32 = .ok (.baload, 1) := by decide +kernel
theorem d4_33 : decode method_6_code 33 = .ok (.if_icmp .ne 69, 3) := by decide +kernel
theorem d4_36 : decode method_6_code 36 = .ok (.aload_n 0, 1) := by decide +kernel
theorem d4_37 : decode method_6_code 37 = .ok (.iconst 4, 1) := by decide +kernel
theorem d4_38 : decode method_6_code 38 = .ok (.baload, 1) := by decide +kernel
theorem d4_39 : decode method_6_code 39 = .ok (.aload_n 1, 1) := by decide +kernel
theorem d4_40 : decode method_6_code 40 = .ok (.iconst 4, 1) := by decide +kernel
theorem d4_41 : decode method_6_code 41 = .ok (.baload, 1) := by decide +kernel
theorem d4_42 : decode method_6_code 42 = .ok (.if_icmp .ne 60, 3) := by decide +kernel
theorem d4_45 : decode method_6_code 45 = .ok (.aload_n 0, 1) := by decide +kernel
theorem d4_46 : decode method_6_code 46 = .ok (.iconst 5, 1) := by decide +kernel
theorem d4_47 : decode method_6_code 47 = .ok (.baload, 1) := by decide +kernel
theorem d4_48 : decode method_6_code 48 = .ok (.aload_n 1, 1) := by decide +kernel
theorem d4_49 : decode method_6_code 49 = .ok (.iconst 5, 1) := by decide +kernel
theorem d4_50 : decode method_6_code 50 = .ok (.baload, 1) := by decide +kernel
theorem d4_51 : decode method_6_code 51 = .ok (.if_icmp .ne 51, 3) := by decide +kernel
theorem d4_54 : decode method_6_code 54 = .ok (.aload_n 0, 1) := by decide +kernel
theorem d4_55 : decode method_6_code 55 = .ok (.bipush 6, 2) := by decide +kernel
theorem d4_57 : decode method_6_code 57 = .ok (.baload, 1) := by decide +kernel
theorem d4_58 : decode method_6_code 58 = .ok (.aload_n 1, 1) := by decide +kernel
theorem d4_59 : decode method_6_code 59 = .ok (.bipush 6, 2) := by decide +kernel
theorem d4_61 : decode method_6_code 61 = .ok (.baload, 1) := by decide +kernel
theorem d4_62 : decode method_6_code 62 = .ok (.if_icmp .ne 40, 3) := by decide +kernel
theorem d4_65 : decode method_6_code 65 = .ok (.aload_n 0, 1) := by decide +kernel
theorem d4_66 : decode method_6_code 66 = .ok (.bipush 7, 2) := by decide +kernel
theorem d4_68 : decode method_6_code 68 = .ok (.baload, 1) := by decide +kernel
theorem d4_69 : decode method_6_code 69 = .ok (.aload_n 1, 1) := by decide +kernel
theorem d4_70 : decode method_6_code 70 = .ok (.bipush 7, 2) := by decide +kernel
theorem d4_72 : decode method_6_code 72 = .ok (.baload, 1) := by decide +kernel
theorem d4_73 : decode method_6_code 73 = .ok (.if_icmp .ne 29, 3) := by decide +kernel
theorem d4_76 : decode method_6_code 76 = .ok (.aload_n 0, 1) := by decide +kernel
theorem d4_77 : decode method_6_code 77 = .ok (.bipush 8, 2) := by decide +kernel
theorem d4_79 : decode method_6_code 79 = .ok (.baload, 1) := by decide +kernel
theorem d4_80 : decode method_6_code 80 = .ok (.aload_n 1, 1) := by decide +kernel
theorem d4_81 : decode method_6_code 81 = .ok (.bipush 8, 2) := by decide +kernel
theorem d4_83 : decode method_6_code 83 = .ok (.baload, 1) := by decide +kernel
theorem d4_84 : decode method_6_code 84 = .ok (.if_icmp .ne 18, 3) := by decide +kernel
theorem d4_87 : decode method_6_code 87 = .ok (.aload_n 0, 1) := by decide +kernel
theorem d4_88 : decode method_6_code 88 = .ok (.bipush 9, 2) := by decide +kernel
theorem d4_90 : decode method_6_code 90 = .ok (.baload, 1) := by decide +kernel
theorem d4_91 : decode method_6_code 91 = .ok (.aload_n 1, 1) := by decide +kernel
theorem d4_92 : decode method_6_code 92 = .ok (.bipush 9, 2) := by decide +kernel
theorem d4_94 : decode method_6_code 94 = .ok (.baload, 1) := by decide +kernel
theorem d4_95 : decode method_6_code 95 = .ok (.if_icmp .ne 7, 3) := by decide +kernel
theorem d4_98 : decode method_6_code 98 = .ok (.iconst 1, 1) := by decide +kernel
theorem d4_99 : decode method_6_code 99 = .ok (.goto 4, 3) := by decide +kernel
theorem d4_102 : decode method_6_code 102 = .ok (.iconst 0, 1) := by decide +kernel
theorem d4_103 : decode method_6_code 103 = .ok (.ireturn, 1) := by decide +kernel
theorem ef_4 (m : MethodId) (a : Addr) (b : Addr) : entryFrame m #[(.ref a), (.ref b)] 2 = mkF m 0 #[.val (.ref a), .val (.ref b)] [] := by first | (simp [entryFrame, mkF, argsToLocals, Value.category]; done) | rfl
abbrev rm_c_same : Room := { frames := 0, cells := 0, slots := 0, locals := 0 }
set_option maxRecDepth 65536 in
set_option maxHeartbeats 40000000 in
theorem c_same (l : Launch) (Z : State) (a0 : Array Value) (hw : ∀ d ∈ tables_1, d.before a0 Z = true) (a : Addr) (b : Addr) (g : Nat → Int32) (h0 : Heap) (n0 : Nat) (low : n0 ≤ h0.size) (A_a : ARI Z h0 a .byte 10 g) (A_b : ARI Z h0 b .byte 10 g) :
    Meth l Z (⟨"com/example/sessionloom/sessionloom/TabSeparatedEscapePinLaw", "same", "([B[B)Z"⟩ : MethodName) method_6_code 2 (some .boolean) rm_c_same #[(.ref a), (.ref b)] h0 n0 (Ret (.int (1 : Int32)) h0) := by
  refine Meth.of (plainFor_of_name pn_0) low ?_
  intro p e s m args below meth c T P
  refine Ends.cast (ef_4 m a b) ?_
  refine aloadN P d4_0 rfl rfl (n := 1) rfl ?_
  refine iconst P d4_1 (x := (0 : Int32)) rfl (n := 2) rfl ?_
  refine baloadI P d4_2 A_a (u := 0) ⟨rfl, by decide⟩ (n := 3) rfl ?_
  refine aloadN P d4_3 rfl rfl (n := 4) rfl ?_
  refine iconst P d4_4 (x := (0 : Int32)) rfl (n := 5) rfl ?_
  refine baloadI P d4_5 A_b (u := 0) ⟨rfl, by decide⟩ (n := 6) rfl ?_
  refine icmp_ne P d4_6 (n' := 102) (n := 9) (by decide) rfl (fun hc6 => ?_) (fun hc6 => ?_)
  · -- pc 6 taken
    exact absurd rfl hc6
  · -- pc 6 not taken
    refine aloadN P d4_9 rfl rfl (n := 10) rfl ?_
    refine iconst P d4_10 (x := (1 : Int32)) rfl (n := 11) rfl ?_
    refine baloadI P d4_11 A_a (u := 1) ⟨rfl, by decide⟩ (n := 12) rfl ?_
    refine aloadN P d4_12 rfl rfl (n := 13) rfl ?_
    refine iconst P d4_13 (x := (1 : Int32)) rfl (n := 14) rfl ?_
    refine baloadI P d4_14 A_b (u := 1) ⟨rfl, by decide⟩ (n := 15) rfl ?_
    refine icmp_ne P d4_15 (n' := 102) (n := 18) (by decide) rfl (fun hc15 => ?_) (fun hc15 => ?_)
    · -- pc 15 taken
      exact absurd rfl hc15
    · -- pc 15 not taken
      refine aloadN P d4_18 rfl rfl (n := 19) rfl ?_
      refine iconst P d4_19 (x := (2 : Int32)) rfl (n := 20) rfl ?_
      refine baloadI P d4_20 A_a (u := 2) ⟨rfl, by decide⟩ (n := 21) rfl ?_
      refine aloadN P d4_21 rfl rfl (n := 22) rfl ?_
      refine iconst P d4_22 (x := (2 : Int32)) rfl (n := 23) rfl ?_
      refine baloadI P d4_23 A_b (u := 2) ⟨rfl, by decide⟩ (n := 24) rfl ?_
      refine icmp_ne P d4_24 (n' := 102) (n := 27) (by decide) rfl (fun hc24 => ?_) (fun hc24 => ?_)
      · -- pc 24 taken
        exact absurd rfl hc24
      · -- pc 24 not taken
        refine aloadN P d4_27 rfl rfl (n := 28) rfl ?_
        refine iconst P d4_28 (x := (3 : Int32)) rfl (n := 29) rfl ?_
        refine baloadI P d4_29 A_a (u := 3) ⟨rfl, by decide⟩ (n := 30) rfl ?_
        refine aloadN P d4_30 rfl rfl (n := 31) rfl ?_
        refine iconst P d4_31 (x := (3 : Int32)) rfl (n := 32) rfl ?_
        refine baloadI P d4_32 A_b (u := 3) ⟨rfl, by decide⟩ (n := 33) rfl ?_
        refine icmp_ne P d4_33 (n' := 102) (n := 36) (by decide) rfl (fun hc33 => ?_) (fun hc33 => ?_)
        · -- pc 33 taken
          exact absurd rfl hc33
        · -- pc 33 not taken
          refine aloadN P d4_36 rfl rfl (n := 37) rfl ?_
          refine iconst P d4_37 (x := (4 : Int32)) rfl (n := 38) rfl ?_
          refine baloadI P d4_38 A_a (u := 4) ⟨rfl, by decide⟩ (n := 39) rfl ?_
          refine aloadN P d4_39 rfl rfl (n := 40) rfl ?_
          refine iconst P d4_40 (x := (4 : Int32)) rfl (n := 41) rfl ?_
          refine baloadI P d4_41 A_b (u := 4) ⟨rfl, by decide⟩ (n := 42) rfl ?_
          refine icmp_ne P d4_42 (n' := 102) (n := 45) (by decide) rfl (fun hc42 => ?_) (fun hc42 => ?_)
          · -- pc 42 taken
            exact absurd rfl hc42
          · -- pc 42 not taken
            refine aloadN P d4_45 rfl rfl (n := 46) rfl ?_
            refine iconst P d4_46 (x := (5 : Int32)) rfl (n := 47) rfl ?_
            refine baloadI P d4_47 A_a (u := 5) ⟨rfl, by decide⟩ (n := 48) rfl ?_
            refine aloadN P d4_48 rfl rfl (n := 49) rfl ?_
            refine iconst P d4_49 (x := (5 : Int32)) rfl (n := 50) rfl ?_
            refine baloadI P d4_50 A_b (u := 5) ⟨rfl, by decide⟩ (n := 51) rfl ?_
            refine icmp_ne P d4_51 (n' := 102) (n := 54) (by decide) rfl (fun hc51 => ?_) (fun hc51 => ?_)
            · -- pc 51 taken
              exact absurd rfl hc51
            · -- pc 51 not taken
              refine aloadN P d4_54 rfl rfl (n := 55) rfl ?_
              refine bipush P d4_55 (x := (6 : Int32)) rfl (n := 57) rfl ?_
              refine baloadI P d4_57 A_a (u := 6) ⟨rfl, by decide⟩ (n := 58) rfl ?_
              refine aloadN P d4_58 rfl rfl (n := 59) rfl ?_
              refine bipush P d4_59 (x := (6 : Int32)) rfl (n := 61) rfl ?_
              refine baloadI P d4_61 A_b (u := 6) ⟨rfl, by decide⟩ (n := 62) rfl ?_
              refine icmp_ne P d4_62 (n' := 102) (n := 65) (by decide) rfl (fun hc62 => ?_) (fun hc62 => ?_)
              · -- pc 62 taken
                exact absurd rfl hc62
              · -- pc 62 not taken
                refine aloadN P d4_65 rfl rfl (n := 66) rfl ?_
                refine bipush P d4_66 (x := (7 : Int32)) rfl (n := 68) rfl ?_
                refine baloadI P d4_68 A_a (u := 7) ⟨rfl, by decide⟩ (n := 69) rfl ?_
                refine aloadN P d4_69 rfl rfl (n := 70) rfl ?_
                refine bipush P d4_70 (x := (7 : Int32)) rfl (n := 72) rfl ?_
                refine baloadI P d4_72 A_b (u := 7) ⟨rfl, by decide⟩ (n := 73) rfl ?_
                refine icmp_ne P d4_73 (n' := 102) (n := 76) (by decide) rfl (fun hc73 => ?_) (fun hc73 => ?_)
                · -- pc 73 taken
                  exact absurd rfl hc73
                · -- pc 73 not taken
                  refine aloadN P d4_76 rfl rfl (n := 77) rfl ?_
                  refine bipush P d4_77 (x := (8 : Int32)) rfl (n := 79) rfl ?_
                  refine baloadI P d4_79 A_a (u := 8) ⟨rfl, by decide⟩ (n := 80) rfl ?_
                  refine aloadN P d4_80 rfl rfl (n := 81) rfl ?_
                  refine bipush P d4_81 (x := (8 : Int32)) rfl (n := 83) rfl ?_
                  refine baloadI P d4_83 A_b (u := 8) ⟨rfl, by decide⟩ (n := 84) rfl ?_
                  refine icmp_ne P d4_84 (n' := 102) (n := 87) (by decide) rfl (fun hc84 => ?_) (fun hc84 => ?_)
                  · -- pc 84 taken
                    exact absurd rfl hc84
                  · -- pc 84 not taken
                    refine aloadN P d4_87 rfl rfl (n := 88) rfl ?_
                    refine bipush P d4_88 (x := (9 : Int32)) rfl (n := 90) rfl ?_
                    refine baloadI P d4_90 A_a (u := 9) ⟨rfl, by decide⟩ (n := 91) rfl ?_
                    refine aloadN P d4_91 rfl rfl (n := 92) rfl ?_
                    refine bipush P d4_92 (x := (9 : Int32)) rfl (n := 94) rfl ?_
                    refine baloadI P d4_94 A_b (u := 9) ⟨rfl, by decide⟩ (n := 95) rfl ?_
                    refine icmp_ne P d4_95 (n' := 102) (n := 98) (by decide) rfl (fun hc95 => ?_) (fun hc95 => ?_)
                    · -- pc 95 taken
                      exact absurd rfl hc95
                    · -- pc 95 not taken
                      refine iconst P d4_98 (x := (1 : Int32)) rfl (n := 99) rfl ?_
                      refine goto P d4_99 (n := 103) (by decide) ?_
                      refine retZ P d4_103 (by decide) (by decide) (by decide) ?_
                      exact Ret.ofI rfl
theorem d3_0 : decode prog_34_method_5_code 0 = .ok (.iload 4, 2) := by decide +kernel
theorem d3_2 : decode prog_34_method_5_code 2 = .ok (.istore 5, 2) := by decide +kernel
theorem d3_4 : decode prog_34_method_5_code 4 = .ok (.iload_n 1, 1) := by decide +kernel
theorem d3_5 : decode prog_34_method_5_code 5 = .ok (.istore 6, 2) := by decide +kernel
theorem d3_7 : decode prog_34_method_5_code 7 = .ok (.iload 6, 2) := by decide +kernel
theorem d3_9 : decode prog_34_method_5_code 9 = .ok (.iload_n 2, 1) := by decide +kernel
theorem d3_10 : decode prog_34_method_5_code 10 = .ok (.if_icmp .ge 89, 3) := by decide +kernel
theorem d3_13 : decode prog_34_method_5_code 13 = .ok (.aload_n 0, 1) := by decide +kernel
theorem d3_14 : decode prog_34_method_5_code 14 = .ok (.iload 6, 2) := by decide +kernel
theorem d3_16 : decode prog_34_method_5_code 16 = .ok (.baload, 1) := by decide +kernel
theorem d3_17 : decode prog_34_method_5_code 17 = .ok (.istore 7, 2) := by decide +kernel
theorem d3_19 : decode prog_34_method_5_code 19 = .ok (.iload 7, 2) := by decide +kernel
theorem d3_21 : decode prog_34_method_5_code 21 = .ok (.bipush 9, 2) := by decide +kernel
theorem d3_23 : decode prog_34_method_5_code 23 = .ok (.if_icmp .ne 8, 3) := by decide +kernel
theorem d3_26 : decode prog_34_method_5_code 26 = .ok (.bipush 116, 2) := by decide +kernel
theorem d3_28 : decode prog_34_method_5_code 28 = .ok (.goto 28, 3) := by decide +kernel
theorem d3_31 : decode prog_34_method_5_code 31 = .ok (.iload 7, 2) := by decide +kernel
theorem d3_33 : decode prog_34_method_5_code 33 = .ok (.bipush 10, 2) := by decide +kernel
theorem d3_35 : decode prog_34_method_5_code 35 = .ok (.if_icmp .ne 8, 3) := by decide +kernel
theorem d3_38 : decode prog_34_method_5_code 38 = .ok (.bipush 110, 2) := by decide +kernel
theorem d3_40 : decode prog_34_method_5_code 40 = .ok (.goto 16, 3) := by decide +kernel
theorem d3_43 : decode prog_34_method_5_code 43 = .ok (.iload 7, 2) := by decide +kernel
theorem d3_45 : decode prog_34_method_5_code 45 = .ok (.bipush 13, 2) := by decide +kernel
theorem d3_47 : decode prog_34_method_5_code 47 = .ok (.if_icmp .ne 8, 3) := by decide +kernel
theorem d3_50 : decode prog_34_method_5_code 50 = .ok (.bipush 114, 2) := by decide +kernel
theorem d3_52 : decode prog_34_method_5_code 52 = .ok (.goto 4, 3) := by decide +kernel
theorem d3_55 : decode prog_34_method_5_code 55 = .ok (.iconst 0, 1) := by decide +kernel
theorem d3_56 : decode prog_34_method_5_code 56 = .ok (.istore 8, 2) := by decide +kernel
theorem d3_58 : decode prog_34_method_5_code 58 = .ok (.iload 8, 2) := by decide +kernel
theorem d3_60 : decode prog_34_method_5_code 60 = .ok (.ifCond .eq 24, 3) := by decide +kernel
theorem d3_63 : decode prog_34_method_5_code 63 = .ok (.aload_n 3, 1) := by decide +kernel
theorem d3_64 : decode prog_34_method_5_code 64 = .ok (.iload 5, 2) := by decide +kernel
theorem d3_66 : decode prog_34_method_5_code 66 = .ok (.iinc 5 1, 3) := by decide +kernel
theorem d3_69 : decode prog_34_method_5_code 69 = .ok (.bipush 92, 2) := by decide +kernel
theorem d3_71 : decode prog_34_method_5_code 71 = .ok (.bastore, 1) := by decide +kernel
theorem d3_72 : decode prog_34_method_5_code 72 = .ok (.aload_n 3, 1) := by decide +kernel
theorem d3_73 : decode prog_34_method_5_code 73 = .ok (.iload 5, 2) := by decide +kernel
theorem d3_75 : decode prog_34_method_5_code 75 = .ok (.iinc 5 1, 3) := by decide +kernel
theorem d3_78 : decode prog_34_method_5_code 78 = .ok (.iload 8, 2) := by decide +kernel
theorem d3_80 : decode prog_34_method_5_code 80 = .ok (.bastore, 1) := by decide +kernel
theorem d3_81 : decode prog_34_method_5_code 81 = .ok (.goto 12, 3) := by decide +kernel
theorem d3_84 : decode prog_34_method_5_code 84 = .ok (.aload_n 3, 1) := by decide +kernel
theorem d3_85 : decode prog_34_method_5_code 85 = .ok (.iload 5, 2) := by decide +kernel
theorem d3_87 : decode prog_34_method_5_code 87 = .ok (.iinc 5 1, 3) := by decide +kernel
theorem d3_90 : decode prog_34_method_5_code 90 = .ok (.iload 7, 2) := by decide +kernel
theorem d3_92 : decode prog_34_method_5_code 92 = .ok (.bastore, 1) := by decide +kernel
theorem d3_93 : decode prog_34_method_5_code 93 = .ok (.iinc 6 1, 3) := by decide +kernel
theorem d3_96 : decode prog_34_method_5_code 96 = .ok (.goto (-89), 3) := by decide +kernel
theorem d3_99 : decode prog_34_method_5_code 99 = .ok (.iload 5, 2) := by decide +kernel
theorem d3_101 : decode prog_34_method_5_code 101 = .ok (.ireturn, 1) := by decide +kernel
theorem ef_3 (m : MethodId) (a : Addr) (fr : Int32) (to : Int32) (b : Addr) (at1 : Int32) : entryFrame m #[(.ref a), (.int fr), (.int to), (.ref b), (.int at1)] 9 = mkF m 0 #[.val (.ref a), .val (.int fr), .val (.int to), .val (.ref b), .val (.int at1), .unset, .unset, .unset, .unset] [] := by first | (simp [entryFrame, mkF, argsToLocals, Value.category]; done) | rfl
theorem pn_1 : plainName "com/example/sessionloom/sessionloom/TabSeparated" = true := by first | (simp [plainName, overriddenIn]; done) | decide +kernel
abbrev rm_c_esc : Room := { frames := 0, cells := 0, slots := 0, locals := 0 }
set_option maxRecDepth 65536 in
set_option maxHeartbeats 40000000 in
theorem c_esc (l : Launch) (Z : State) (a0 : Array Value) (hw : ∀ d ∈ tables_1, d.before a0 Z = true) (a : Addr) (fr : Int32) (to : Int32) (b : Addr) (at1 : Int32) (gv g : Nat → Int32) (k : Nat) (h0 : Heap) (n0 : Nat) (low : n0 ≤ h0.size) (A_a : ARI Z h0 a .byte 3 gv) (A_b : ARI Z h0 b .byte 10 g) (hne : a ≠ b) (lo : n0 ≤ b) (hft : 0 ≤ fr.toInt ∧ fr.toInt ≤ to.toInt ∧ to.toInt ≤ 3 ∧ k + 2 * (to.toInt - fr.toInt).toNat ≤ 10) (hk : at1.toInt = k ∧ True) (hbv : ∀ i, i < 3 → (gv i).toInt8.toInt32 = gv i) :
    Meth l Z (⟨"com/example/sessionloom/sessionloom/TabSeparated", "escape", "([BII[BI)I"⟩ : MethodName) prog_34_method_5_code 9 (some .int) rm_c_esc #[(.ref a), (.int fr), (.int to), (.ref b), (.int at1)] h0 n0 (fun r h => ∃ z, r = some (.int z) ∧ z.toInt = ((own_run gv fr.toInt.toNat (to.toInt - fr.toInt).toNat (g, k)).2 : Nat) ∧ ARI Z h b .byte 10 (own_run gv fr.toInt.toNat (to.toInt - fr.toInt).toNat (g, k)).1 ∧ Keep h0 h [b]) := by
  refine Meth.of (plainFor_of_name pn_1) low ?_
  intro p e s m args below meth c T P
  refine Ends.cast (ef_3 m a fr to b at1) ?_
  refine iload P d3_0 rfl (n := 2) rfl ?_
  refine istore P d3_2 (l' := #[.val (.ref a), .val (.int fr), .val (.int to), .val (.ref b), .val (.int at1), .val (.int at1), .unset, .unset, .unset]) rfl (n := 4) rfl ?_
  refine iloadN P d3_4 rfl (n := 5) rfl ?_
  refine istore P d3_5 (l' := #[.val (.ref a), .val (.int fr), .val (.int to), .val (.ref b), .val (.int at1), .val (.int at1), .val (.int fr), .unset, .unset]) rfl (n := 7) rfl ?_
  obtain ⟨R9, hR9⟩ : ∃ R, R = own_run gv fr.toInt.toNat (to.toInt - fr.toInt).toNat (g, k) := ⟨_, rfl⟩
  have LP : ∀ (n : Nat) (T : State) (h1 : Heap) (x5 x6 : Int32) (x7 x8 : Slot) (g1 : Nat → Int32) (k1 i1 : Nat), Jvm.Own.Pos p l e rm_c_esc s m args below meth c Z "com/example/sessionloom/sessionloom/TabSeparated" "escape" prog_34_method_5_code 9 (some .int) n0 T h1 0 0 → ARI Z h1 a .byte 3 gv → ARI Z h1 b .byte 10 g1 → Keep h0 h1 [b] → x5.toInt = k1 → x6.toInt = i1 → to.toInt = i1 + n → k1 + 2 * n ≤ 10 → (x7 = .unset ∨ ∃ w : Int32, x7 = .val (.int w)) → (x8 = .unset ∨ ∃ w : Int32, x8 = .val (.int w)) → own_run gv i1 n (g1, k1) = R9 → Jvm.Own.Ends p e below s rm_c_esc n0 (fun r h => ∃ z, r = some (.int z) ∧ z.toInt = ((own_run gv fr.toInt.toNat (to.toInt - fr.toInt).toNat (g, k)).2 : Nat) ∧ ARI Z h b .byte 10 (own_run gv fr.toInt.toNat (to.toInt - fr.toInt).toNat (g, k)).1 ∧ Keep h0 h [b]) T (mkF m 7 #[.val (.ref a), .val (.int fr), .val (.int to), .val (.ref b), .val (.int at1), .val (.int x5), .val (.int x6), x7, x8] []) := by
    intro n
    induction n with
    | zero =>
      intro T h1 x5 x6 x7 x8 g1 k1 i1 P A_a A_b K t5 t6 hto hk1 sl_x7 sl_x8 hR
      refine iload P d3_7 rfl (n := 9) rfl ?_
      refine iloadN P d3_9 rfl (n := 10) rfl ?_
      refine icmp_ge P d3_10 (n' := 99) (n := 13) (by decide) rfl (fun hc10 => ?_) (fun hc10 => ?_)
      · -- pc 10 taken
        refine iload P d3_99 rfl (n := 101) rfl ?_
        refine retI P d3_101 (by decide) (by decide) ?_
        have hR2 : (g1, k1) = R9 := hR
        rw [← hR9, ← hR2]
        exact ⟨_, rfl, t5, A_b, K⟩
      · -- pc 10 not taken
        exfalso; omega
    | succ n ih =>
      intro T h1 x5 x6 x7 x8 g1 k1 i1 P A_a A_b K t5 t6 hto hk1 sl_x7 sl_x8 hR
      refine iload P d3_7 rfl (n := 9) rfl ?_
      refine iloadN P d3_9 rfl (n := 10) rfl ?_
      refine icmp_ge P d3_10 (n' := 99) (n := 13) (by decide) rfl (fun hc10 => ?_) (fun hc10 => ?_)
      · -- pc 10 taken
        exfalso; omega
      · -- pc 10 not taken
        refine aloadN P d3_13 rfl rfl (n := 14) rfl ?_
        refine iload P d3_14 rfl (n := 16) rfl ?_
        refine baloadI P d3_16 A_a (u := i1) ⟨t6, by omega⟩ (n := 17) rfl ?_
        refine istore P d3_17 (l' := #[.val (.ref a), .val (.int fr), .val (.int to), .val (.ref b), .val (.int at1), .val (.int x5), .val (.int x6), .val (.int (gv i1)), x8]) (by rcases sl_x7 with rfl | ⟨w, rfl⟩ <;> rfl) (n := 19) rfl ?_
        have hvb := hbv i1 (by omega)
        refine iload P d3_19 rfl (n := 21) rfl ?_
        refine bipush P d3_21 (x := (9 : Int32)) rfl (n := 23) rfl ?_
        refine icmp_ne P d3_23 (n' := 31) (n := 26) (by decide) rfl (fun hc23 => ?_) (fun hc23 => ?_)
        · -- pc 23 taken
          replace hc23 : ¬ (gv i1).toInt = (9 : Int) := hc23
          refine iload P d3_31 rfl (n := 33) rfl ?_
          refine bipush P d3_33 (x := (10 : Int32)) rfl (n := 35) rfl ?_
          refine icmp_ne P d3_35 (n' := 43) (n := 38) (by decide) rfl (fun hc35 => ?_) (fun hc35 => ?_)
          · -- pc 35 taken
            replace hc35 : ¬ (gv i1).toInt = (10 : Int) := hc35
            refine iload P d3_43 rfl (n := 45) rfl ?_
            refine bipush P d3_45 (x := (13 : Int32)) rfl (n := 47) rfl ?_
            refine icmp_ne P d3_47 (n' := 55) (n := 50) (by decide) rfl (fun hc47 => ?_) (fun hc47 => ?_)
            · -- pc 47 taken
              replace hc47 : ¬ (gv i1).toInt = (13 : Int) := hc47
              refine iconst P d3_55 (x := (0 : Int32)) rfl (n := 56) rfl ?_
              refine istore P d3_56 (l' := #[.val (.ref a), .val (.int fr), .val (.int to), .val (.ref b), .val (.int at1), .val (.int x5), .val (.int x6), .val (.int (gv i1)), .val (.int (0 : Int32))]) (by rcases sl_x8 with rfl | ⟨w, rfl⟩ <;> rfl) (n := 58) rfl ?_
              refine iload P d3_58 rfl (n := 60) rfl ?_
              refine if0_eq P d3_60 (n' := 84) (n := 63) (by decide) rfl (fun hc60 => ?_) (fun hc60 => ?_)
              · -- pc 60 taken
                replace hc60 : (0 : Int) = (0 : Int) := hc60
                refine aloadN P d3_84 rfl rfl (n := 85) rfl ?_
                refine iload P d3_85 rfl (n := 87) rfl ?_
                refine iinc P d3_87 (x := x5) (y := (1 : Int32)) rfl rfl (l' := #[.val (.ref a), .val (.int fr), .val (.int to), .val (.ref b), .val (.int at1), .val (.int (x5 + (1 : Int32))), .val (.int x6), .val (.int (gv i1)), .val (.int (0 : Int32))]) rfl (n := 90) rfl ?_
                refine nameI (x := (x5 + (1 : Int32))) (F := fun y87 => Jvm.Own.Ends p e below s rm_c_esc n0 (fun r h => ∃ z, r = some (.int z) ∧ z.toInt = ((own_run gv fr.toInt.toNat (to.toInt - fr.toInt).toNat (g, k)).2 : Nat) ∧ ARI Z h b .byte 10 (own_run gv fr.toInt.toNat (to.toInt - fr.toInt).toNat (g, k)).1 ∧ Keep h0 h [b]) T (mkF m 90 #[.val (.ref a), .val (.int fr), .val (.int to), .val (.ref b), .val (.int at1), .val (.int y87), .val (.int x6), .val (.int (gv i1)), .val (.int (0 : Int32))] [(.int x5), (.ref b)])) ?_
                intro y87 hy87
                have ty87 : y87.toInt = x5.toInt + 1 := n_iadd hy87 rfl rfl (by omega)
                refine iload P d3_90 rfl (n := 92) rfl ?_
                refine stB P d3_92 A_b (u := k1) ⟨t5, by omega⟩ lo (n := 93) rfl ?_
                intro T h1 P W2
                rw [show (gv i1).toInt8.toInt32 = (gv i1) from hvb] at W2
                replace A_a := A_a.other W2 hne
                replace A_b := ARI.set A_b W2
                have K := Keep.wr K W2 (Or.inl (by simp))
                have e9 : own_put (g1, k1) (gv i1) = ((ovr g1 k1 ((gv i1))), k1 + 1) := by unfold own_put; rw [if_neg hc23, if_neg hc35, if_neg hc47]
                refine iinc P d3_93 (x := x6) (y := (1 : Int32)) rfl rfl (l' := #[.val (.ref a), .val (.int fr), .val (.int to), .val (.ref b), .val (.int at1), .val (.int y87), .val (.int (x6 + (1 : Int32))), .val (.int (gv i1)), .val (.int (0 : Int32))]) rfl (n := 96) rfl ?_
                refine nameI (x := (x6 + (1 : Int32))) (F := fun y93 => Jvm.Own.Ends p e below s rm_c_esc n0 (fun r h => ∃ z, r = some (.int z) ∧ z.toInt = ((own_run gv fr.toInt.toNat (to.toInt - fr.toInt).toNat (g, k)).2 : Nat) ∧ ARI Z h b .byte 10 (own_run gv fr.toInt.toNat (to.toInt - fr.toInt).toNat (g, k)).1 ∧ Keep h0 h [b]) T (mkF m 96 #[.val (.ref a), .val (.int fr), .val (.int to), .val (.ref b), .val (.int at1), .val (.int y87), .val (.int y93), .val (.int (gv i1)), .val (.int (0 : Int32))] [])) ?_
                intro y93 hy93
                have ty93 : y93.toInt = x6.toInt + 1 := n_iadd hy93 rfl rfl (by omega)
                refine goto P d3_96 (n := 7) (by decide) ?_
                exact ih T _ _ _ _ _ (ovr g1 k1 ((gv i1))) (k1 + 1) (i1 + 1) P A_a A_b K (by omega) (by omega) (by omega) (by omega) (Or.inr ⟨_, rfl⟩) (Or.inr ⟨_, rfl⟩) (by rw [← hR, own_run_s, e9])
              · -- pc 60 not taken
                replace hc60 : ¬ (0 : Int) = (0 : Int) := hc60
                exact absurd hc60 (by decide)
            · -- pc 47 not taken
              replace hc47 : (gv i1).toInt = (13 : Int) := hc47
              refine bipush P d3_50 (x := (114 : Int32)) rfl (n := 52) rfl ?_
              refine goto P d3_52 (n := 56) (by decide) ?_
              refine istore P d3_56 (l' := #[.val (.ref a), .val (.int fr), .val (.int to), .val (.ref b), .val (.int at1), .val (.int x5), .val (.int x6), .val (.int (gv i1)), .val (.int (114 : Int32))]) (by rcases sl_x8 with rfl | ⟨w, rfl⟩ <;> rfl) (n := 58) rfl ?_
              refine iload P d3_58 rfl (n := 60) rfl ?_
              refine if0_eq P d3_60 (n' := 84) (n := 63) (by decide) rfl (fun hc60 => ?_) (fun hc60 => ?_)
              · -- pc 60 taken
                replace hc60 : (114 : Int) = (0 : Int) := hc60
                exact absurd hc60 (by decide)
              · -- pc 60 not taken
                replace hc60 : ¬ (114 : Int) = (0 : Int) := hc60
                refine aloadN P d3_63 rfl rfl (n := 64) rfl ?_
                refine iload P d3_64 rfl (n := 66) rfl ?_
                refine iinc P d3_66 (x := x5) (y := (1 : Int32)) rfl rfl (l' := #[.val (.ref a), .val (.int fr), .val (.int to), .val (.ref b), .val (.int at1), .val (.int (x5 + (1 : Int32))), .val (.int x6), .val (.int (gv i1)), .val (.int (114 : Int32))]) rfl (n := 69) rfl ?_
                refine nameI (x := (x5 + (1 : Int32))) (F := fun y66 => Jvm.Own.Ends p e below s rm_c_esc n0 (fun r h => ∃ z, r = some (.int z) ∧ z.toInt = ((own_run gv fr.toInt.toNat (to.toInt - fr.toInt).toNat (g, k)).2 : Nat) ∧ ARI Z h b .byte 10 (own_run gv fr.toInt.toNat (to.toInt - fr.toInt).toNat (g, k)).1 ∧ Keep h0 h [b]) T (mkF m 69 #[.val (.ref a), .val (.int fr), .val (.int to), .val (.ref b), .val (.int at1), .val (.int y66), .val (.int x6), .val (.int (gv i1)), .val (.int (114 : Int32))] [(.int x5), (.ref b)])) ?_
                intro y66 hy66
                have ty66 : y66.toInt = x5.toInt + 1 := n_iadd hy66 rfl rfl (by omega)
                refine bipush P d3_69 (x := (92 : Int32)) rfl (n := 71) rfl ?_
                refine stB P d3_71 A_b (u := k1) ⟨t5, by omega⟩ lo (n := 72) rfl ?_
                intro T h3 P W4
                rw [show (92 : Int32).toInt8.toInt32 = (92 : Int32) from (by decide)] at W4
                replace A_a := A_a.other W4 hne
                replace A_b := ARI.set A_b W4
                have K := Keep.wr K W4 (Or.inl (by simp))
                refine aloadN P d3_72 rfl rfl (n := 73) rfl ?_
                refine iload P d3_73 rfl (n := 75) rfl ?_
                refine iinc P d3_75 (x := y66) (y := (1 : Int32)) rfl rfl (l' := #[.val (.ref a), .val (.int fr), .val (.int to), .val (.ref b), .val (.int at1), .val (.int (y66 + (1 : Int32))), .val (.int x6), .val (.int (gv i1)), .val (.int (114 : Int32))]) rfl (n := 78) rfl ?_
                refine nameI (x := (y66 + (1 : Int32))) (F := fun y75 => Jvm.Own.Ends p e below s rm_c_esc n0 (fun r h => ∃ z, r = some (.int z) ∧ z.toInt = ((own_run gv fr.toInt.toNat (to.toInt - fr.toInt).toNat (g, k)).2 : Nat) ∧ ARI Z h b .byte 10 (own_run gv fr.toInt.toNat (to.toInt - fr.toInt).toNat (g, k)).1 ∧ Keep h0 h [b]) T (mkF m 78 #[.val (.ref a), .val (.int fr), .val (.int to), .val (.ref b), .val (.int at1), .val (.int y75), .val (.int x6), .val (.int (gv i1)), .val (.int (114 : Int32))] [(.int y66), (.ref b)])) ?_
                intro y75 hy75
                have ty75 : y75.toInt = y66.toInt + 1 := n_iadd hy75 rfl rfl (by omega)
                refine iload P d3_78 rfl (n := 80) rfl ?_
                refine stB P d3_80 A_b (u := (k1 + 1)) ⟨by omega, by omega⟩ lo (n := 81) rfl ?_
                intro T h5 P W6
                rw [show (114 : Int32).toInt8.toInt32 = (114 : Int32) from (by decide)] at W6
                replace A_a := A_a.other W6 hne
                replace A_b := ARI.set A_b W6
                have K := Keep.wr K W6 (Or.inl (by simp))
                refine goto P d3_81 (n := 93) (by decide) ?_
                have e9 : own_put (g1, k1) (gv i1) = ((ovr (ovr g1 k1 ((92 : Int32))) (k1 + 1) ((114 : Int32))), k1 + 2) := by unfold own_put; rw [if_neg hc23, if_neg hc35, if_pos hc47]
                refine iinc P d3_93 (x := x6) (y := (1 : Int32)) rfl rfl (l' := #[.val (.ref a), .val (.int fr), .val (.int to), .val (.ref b), .val (.int at1), .val (.int y75), .val (.int (x6 + (1 : Int32))), .val (.int (gv i1)), .val (.int (114 : Int32))]) rfl (n := 96) rfl ?_
                refine nameI (x := (x6 + (1 : Int32))) (F := fun y93 => Jvm.Own.Ends p e below s rm_c_esc n0 (fun r h => ∃ z, r = some (.int z) ∧ z.toInt = ((own_run gv fr.toInt.toNat (to.toInt - fr.toInt).toNat (g, k)).2 : Nat) ∧ ARI Z h b .byte 10 (own_run gv fr.toInt.toNat (to.toInt - fr.toInt).toNat (g, k)).1 ∧ Keep h0 h [b]) T (mkF m 96 #[.val (.ref a), .val (.int fr), .val (.int to), .val (.ref b), .val (.int at1), .val (.int y75), .val (.int y93), .val (.int (gv i1)), .val (.int (114 : Int32))] [])) ?_
                intro y93 hy93
                have ty93 : y93.toInt = x6.toInt + 1 := n_iadd hy93 rfl rfl (by omega)
                refine goto P d3_96 (n := 7) (by decide) ?_
                exact ih T _ _ _ _ _ (ovr (ovr g1 k1 ((92 : Int32))) (k1 + 1) ((114 : Int32))) (k1 + 2) (i1 + 1) P A_a A_b K (by omega) (by omega) (by omega) (by omega) (Or.inr ⟨_, rfl⟩) (Or.inr ⟨_, rfl⟩) (by rw [← hR, own_run_s, e9])
          · -- pc 35 not taken
            replace hc35 : (gv i1).toInt = (10 : Int) := hc35
            refine bipush P d3_38 (x := (110 : Int32)) rfl (n := 40) rfl ?_
            refine goto P d3_40 (n := 56) (by decide) ?_
            refine istore P d3_56 (l' := #[.val (.ref a), .val (.int fr), .val (.int to), .val (.ref b), .val (.int at1), .val (.int x5), .val (.int x6), .val (.int (gv i1)), .val (.int (110 : Int32))]) (by rcases sl_x8 with rfl | ⟨w, rfl⟩ <;> rfl) (n := 58) rfl ?_
            refine iload P d3_58 rfl (n := 60) rfl ?_
            refine if0_eq P d3_60 (n' := 84) (n := 63) (by decide) rfl (fun hc60 => ?_) (fun hc60 => ?_)
            · -- pc 60 taken
              replace hc60 : (110 : Int) = (0 : Int) := hc60
              exact absurd hc60 (by decide)
            · -- pc 60 not taken
              replace hc60 : ¬ (110 : Int) = (0 : Int) := hc60
              refine aloadN P d3_63 rfl rfl (n := 64) rfl ?_
              refine iload P d3_64 rfl (n := 66) rfl ?_
              refine iinc P d3_66 (x := x5) (y := (1 : Int32)) rfl rfl (l' := #[.val (.ref a), .val (.int fr), .val (.int to), .val (.ref b), .val (.int at1), .val (.int (x5 + (1 : Int32))), .val (.int x6), .val (.int (gv i1)), .val (.int (110 : Int32))]) rfl (n := 69) rfl ?_
              refine nameI (x := (x5 + (1 : Int32))) (F := fun y66 => Jvm.Own.Ends p e below s rm_c_esc n0 (fun r h => ∃ z, r = some (.int z) ∧ z.toInt = ((own_run gv fr.toInt.toNat (to.toInt - fr.toInt).toNat (g, k)).2 : Nat) ∧ ARI Z h b .byte 10 (own_run gv fr.toInt.toNat (to.toInt - fr.toInt).toNat (g, k)).1 ∧ Keep h0 h [b]) T (mkF m 69 #[.val (.ref a), .val (.int fr), .val (.int to), .val (.ref b), .val (.int at1), .val (.int y66), .val (.int x6), .val (.int (gv i1)), .val (.int (110 : Int32))] [(.int x5), (.ref b)])) ?_
              intro y66 hy66
              have ty66 : y66.toInt = x5.toInt + 1 := n_iadd hy66 rfl rfl (by omega)
              refine bipush P d3_69 (x := (92 : Int32)) rfl (n := 71) rfl ?_
              refine stB P d3_71 A_b (u := k1) ⟨t5, by omega⟩ lo (n := 72) rfl ?_
              intro T h7 P W8
              rw [show (92 : Int32).toInt8.toInt32 = (92 : Int32) from (by decide)] at W8
              replace A_a := A_a.other W8 hne
              replace A_b := ARI.set A_b W8
              have K := Keep.wr K W8 (Or.inl (by simp))
              refine aloadN P d3_72 rfl rfl (n := 73) rfl ?_
              refine iload P d3_73 rfl (n := 75) rfl ?_
              refine iinc P d3_75 (x := y66) (y := (1 : Int32)) rfl rfl (l' := #[.val (.ref a), .val (.int fr), .val (.int to), .val (.ref b), .val (.int at1), .val (.int (y66 + (1 : Int32))), .val (.int x6), .val (.int (gv i1)), .val (.int (110 : Int32))]) rfl (n := 78) rfl ?_
              refine nameI (x := (y66 + (1 : Int32))) (F := fun y75 => Jvm.Own.Ends p e below s rm_c_esc n0 (fun r h => ∃ z, r = some (.int z) ∧ z.toInt = ((own_run gv fr.toInt.toNat (to.toInt - fr.toInt).toNat (g, k)).2 : Nat) ∧ ARI Z h b .byte 10 (own_run gv fr.toInt.toNat (to.toInt - fr.toInt).toNat (g, k)).1 ∧ Keep h0 h [b]) T (mkF m 78 #[.val (.ref a), .val (.int fr), .val (.int to), .val (.ref b), .val (.int at1), .val (.int y75), .val (.int x6), .val (.int (gv i1)), .val (.int (110 : Int32))] [(.int y66), (.ref b)])) ?_
              intro y75 hy75
              have ty75 : y75.toInt = y66.toInt + 1 := n_iadd hy75 rfl rfl (by omega)
              refine iload P d3_78 rfl (n := 80) rfl ?_
              refine stB P d3_80 A_b (u := (k1 + 1)) ⟨by omega, by omega⟩ lo (n := 81) rfl ?_
              intro T h9 P W10
              rw [show (110 : Int32).toInt8.toInt32 = (110 : Int32) from (by decide)] at W10
              replace A_a := A_a.other W10 hne
              replace A_b := ARI.set A_b W10
              have K := Keep.wr K W10 (Or.inl (by simp))
              refine goto P d3_81 (n := 93) (by decide) ?_
              have e9 : own_put (g1, k1) (gv i1) = ((ovr (ovr g1 k1 ((92 : Int32))) (k1 + 1) ((110 : Int32))), k1 + 2) := by unfold own_put; rw [if_neg hc23, if_pos hc35]
              refine iinc P d3_93 (x := x6) (y := (1 : Int32)) rfl rfl (l' := #[.val (.ref a), .val (.int fr), .val (.int to), .val (.ref b), .val (.int at1), .val (.int y75), .val (.int (x6 + (1 : Int32))), .val (.int (gv i1)), .val (.int (110 : Int32))]) rfl (n := 96) rfl ?_
              refine nameI (x := (x6 + (1 : Int32))) (F := fun y93 => Jvm.Own.Ends p e below s rm_c_esc n0 (fun r h => ∃ z, r = some (.int z) ∧ z.toInt = ((own_run gv fr.toInt.toNat (to.toInt - fr.toInt).toNat (g, k)).2 : Nat) ∧ ARI Z h b .byte 10 (own_run gv fr.toInt.toNat (to.toInt - fr.toInt).toNat (g, k)).1 ∧ Keep h0 h [b]) T (mkF m 96 #[.val (.ref a), .val (.int fr), .val (.int to), .val (.ref b), .val (.int at1), .val (.int y75), .val (.int y93), .val (.int (gv i1)), .val (.int (110 : Int32))] [])) ?_
              intro y93 hy93
              have ty93 : y93.toInt = x6.toInt + 1 := n_iadd hy93 rfl rfl (by omega)
              refine goto P d3_96 (n := 7) (by decide) ?_
              exact ih T _ _ _ _ _ (ovr (ovr g1 k1 ((92 : Int32))) (k1 + 1) ((110 : Int32))) (k1 + 2) (i1 + 1) P A_a A_b K (by omega) (by omega) (by omega) (by omega) (Or.inr ⟨_, rfl⟩) (Or.inr ⟨_, rfl⟩) (by rw [← hR, own_run_s, e9])
        · -- pc 23 not taken
          replace hc23 : (gv i1).toInt = (9 : Int) := hc23
          refine bipush P d3_26 (x := (116 : Int32)) rfl (n := 28) rfl ?_
          refine goto P d3_28 (n := 56) (by decide) ?_
          refine istore P d3_56 (l' := #[.val (.ref a), .val (.int fr), .val (.int to), .val (.ref b), .val (.int at1), .val (.int x5), .val (.int x6), .val (.int (gv i1)), .val (.int (116 : Int32))]) (by rcases sl_x8 with rfl | ⟨w, rfl⟩ <;> rfl) (n := 58) rfl ?_
          refine iload P d3_58 rfl (n := 60) rfl ?_
          refine if0_eq P d3_60 (n' := 84) (n := 63) (by decide) rfl (fun hc60 => ?_) (fun hc60 => ?_)
          · -- pc 60 taken
            replace hc60 : (116 : Int) = (0 : Int) := hc60
            exact absurd hc60 (by decide)
          · -- pc 60 not taken
            replace hc60 : ¬ (116 : Int) = (0 : Int) := hc60
            refine aloadN P d3_63 rfl rfl (n := 64) rfl ?_
            refine iload P d3_64 rfl (n := 66) rfl ?_
            refine iinc P d3_66 (x := x5) (y := (1 : Int32)) rfl rfl (l' := #[.val (.ref a), .val (.int fr), .val (.int to), .val (.ref b), .val (.int at1), .val (.int (x5 + (1 : Int32))), .val (.int x6), .val (.int (gv i1)), .val (.int (116 : Int32))]) rfl (n := 69) rfl ?_
            refine nameI (x := (x5 + (1 : Int32))) (F := fun y66 => Jvm.Own.Ends p e below s rm_c_esc n0 (fun r h => ∃ z, r = some (.int z) ∧ z.toInt = ((own_run gv fr.toInt.toNat (to.toInt - fr.toInt).toNat (g, k)).2 : Nat) ∧ ARI Z h b .byte 10 (own_run gv fr.toInt.toNat (to.toInt - fr.toInt).toNat (g, k)).1 ∧ Keep h0 h [b]) T (mkF m 69 #[.val (.ref a), .val (.int fr), .val (.int to), .val (.ref b), .val (.int at1), .val (.int y66), .val (.int x6), .val (.int (gv i1)), .val (.int (116 : Int32))] [(.int x5), (.ref b)])) ?_
            intro y66 hy66
            have ty66 : y66.toInt = x5.toInt + 1 := n_iadd hy66 rfl rfl (by omega)
            refine bipush P d3_69 (x := (92 : Int32)) rfl (n := 71) rfl ?_
            refine stB P d3_71 A_b (u := k1) ⟨t5, by omega⟩ lo (n := 72) rfl ?_
            intro T h11 P W12
            rw [show (92 : Int32).toInt8.toInt32 = (92 : Int32) from (by decide)] at W12
            replace A_a := A_a.other W12 hne
            replace A_b := ARI.set A_b W12
            have K := Keep.wr K W12 (Or.inl (by simp))
            refine aloadN P d3_72 rfl rfl (n := 73) rfl ?_
            refine iload P d3_73 rfl (n := 75) rfl ?_
            refine iinc P d3_75 (x := y66) (y := (1 : Int32)) rfl rfl (l' := #[.val (.ref a), .val (.int fr), .val (.int to), .val (.ref b), .val (.int at1), .val (.int (y66 + (1 : Int32))), .val (.int x6), .val (.int (gv i1)), .val (.int (116 : Int32))]) rfl (n := 78) rfl ?_
            refine nameI (x := (y66 + (1 : Int32))) (F := fun y75 => Jvm.Own.Ends p e below s rm_c_esc n0 (fun r h => ∃ z, r = some (.int z) ∧ z.toInt = ((own_run gv fr.toInt.toNat (to.toInt - fr.toInt).toNat (g, k)).2 : Nat) ∧ ARI Z h b .byte 10 (own_run gv fr.toInt.toNat (to.toInt - fr.toInt).toNat (g, k)).1 ∧ Keep h0 h [b]) T (mkF m 78 #[.val (.ref a), .val (.int fr), .val (.int to), .val (.ref b), .val (.int at1), .val (.int y75), .val (.int x6), .val (.int (gv i1)), .val (.int (116 : Int32))] [(.int y66), (.ref b)])) ?_
            intro y75 hy75
            have ty75 : y75.toInt = y66.toInt + 1 := n_iadd hy75 rfl rfl (by omega)
            refine iload P d3_78 rfl (n := 80) rfl ?_
            refine stB P d3_80 A_b (u := (k1 + 1)) ⟨by omega, by omega⟩ lo (n := 81) rfl ?_
            intro T h13 P W14
            rw [show (116 : Int32).toInt8.toInt32 = (116 : Int32) from (by decide)] at W14
            replace A_a := A_a.other W14 hne
            replace A_b := ARI.set A_b W14
            have K := Keep.wr K W14 (Or.inl (by simp))
            refine goto P d3_81 (n := 93) (by decide) ?_
            have e9 : own_put (g1, k1) (gv i1) = ((ovr (ovr g1 k1 ((92 : Int32))) (k1 + 1) ((116 : Int32))), k1 + 2) := by unfold own_put; rw [if_pos hc23]
            refine iinc P d3_93 (x := x6) (y := (1 : Int32)) rfl rfl (l' := #[.val (.ref a), .val (.int fr), .val (.int to), .val (.ref b), .val (.int at1), .val (.int y75), .val (.int (x6 + (1 : Int32))), .val (.int (gv i1)), .val (.int (116 : Int32))]) rfl (n := 96) rfl ?_
            refine nameI (x := (x6 + (1 : Int32))) (F := fun y93 => Jvm.Own.Ends p e below s rm_c_esc n0 (fun r h => ∃ z, r = some (.int z) ∧ z.toInt = ((own_run gv fr.toInt.toNat (to.toInt - fr.toInt).toNat (g, k)).2 : Nat) ∧ ARI Z h b .byte 10 (own_run gv fr.toInt.toNat (to.toInt - fr.toInt).toNat (g, k)).1 ∧ Keep h0 h [b]) T (mkF m 96 #[.val (.ref a), .val (.int fr), .val (.int to), .val (.ref b), .val (.int at1), .val (.int y75), .val (.int y93), .val (.int (gv i1)), .val (.int (116 : Int32))] [])) ?_
            intro y93 hy93
            have ty93 : y93.toInt = x6.toInt + 1 := n_iadd hy93 rfl rfl (by omega)
            refine goto P d3_96 (n := 7) (by decide) ?_
            exact ih T _ _ _ _ _ (ovr (ovr g1 k1 ((92 : Int32))) (k1 + 1) ((116 : Int32))) (k1 + 2) (i1 + 1) P A_a A_b K (by omega) (by omega) (by omega) (by omega) (Or.inr ⟨_, rfl⟩) (Or.inr ⟨_, rfl⟩) (by rw [← hR, own_run_s, e9])
  exact LP (to.toInt - fr.toInt).toNat T h0 _ _ _ _ g k fr.toInt.toNat P A_a A_b (Keep.refl h0 [b]) hk.1 (by omega) (by omega) (by omega) (Or.inl rfl) (Or.inl rfl) hR9.symm
theorem ef_0 (m : MethodId) (ua : Int32) (ub : Int32) (uc : Int32) (r : Int32) (q : Int32) : entryFrame m #[(.int ua), (.int ub), (.int uc), (.int r), (.int q)] maxLocals = mkF m 0 #[.val (.int ua), .val (.int ub), .val (.int uc), .val (.int r), .val (.int q), .unset, .unset, .unset, .unset, .unset, .unset, .unset, .unset, .unset] [] := by first | (simp [entryFrame, mkF, argsToLocals, Value.category, maxLocals]; done) | rfl
theorem pd_0 : parseMethodDescriptor "(I)B" = some ⟨[.int], some .byte⟩ := by decide +kernel
theorem pd_1 : parseMethodDescriptor "([BB)V" = some ⟨[(.array .byte), .byte], none⟩ := by decide +kernel
theorem pd_2 : parseMethodDescriptor "([BIB)I" = some ⟨[(.array .byte), .int, .byte], some .int⟩ := by decide +kernel
theorem pd_3 : parseMethodDescriptor "([BII[BI)I" = some ⟨[(.array .byte), .int, .int, (.array .byte), .int], some .int⟩ := by decide +kernel
theorem pd_4 : parseMethodDescriptor "([B[B)Z" = some ⟨[(.array .byte), (.array .byte)], some .boolean⟩ := by decide +kernel
set_option maxRecDepth 65536 in
set_option maxHeartbeats 40000000 in
theorem rm_law (l : Launch) (Z : State) (a0 : Array Value) (hw : ∀ d ∈ tables_1, d.before a0 Z = true) (ua : Int32) (ub : Int32) (uc : Int32) (r : Int32) (q : Int32)  (h0 : Heap) (n0 : Nat) (low : n0 ≤ h0.size)  :
    Meth l Z x code maxLocals ret room_1 #[(.int ua), (.int ub), (.int uc), (.int r), (.int q)] h0 n0 (fun v _ => v = some (.int 1)) := by
  refine Meth.of (plainFor_of_name pn_0) low ?_
  intro p e s m args below meth c T P
  refine Ends.cast (ef_0 m ua ub uc r q) ?_
  refine iconst P at_0 (x := (3 : Int32)) rfl (n := 1) rfl ?_
  refine newP P at_1 (hw _ (List.mem_of_getElem? (i := 0) rfl)) (k := 3) (cap := 3) ⟨rfl, by decide⟩ (by decide) (by decide) (n := 3) rfl ?_
  intro T h2 b1 P X3 g4 lo_b1 A_b1
  replace A_b1 : ARI Z h2 b1 .byte 3 (fun _ => 0) := A_b1
  refine astore P at_3 rfl (l' := #[.val (.int ua), .val (.int ub), .val (.int uc), .val (.int r), .val (.int q), .val (.ref b1), .unset, .unset, .unset, .unset, .unset, .unset, .unset, .unset]) rfl (n := 5) rfl ?_
  refine aload P at_5 rfl rfl (n := 7) rfl ?_
  refine iconst P at_7 (x := (0 : Int32)) rfl (n := 8) rfl ?_
  refine iloadN P at_8 rfl (n := 9) rfl ?_
  refine callS P at_9 (argsL := [(.int ua)]) (rest := [(.int (0 : Int32)), (.ref b1)]) (c_draw l Z a0 hw ua  h2 n0 P.low ) (hw _ (List.mem_of_getElem? (i := 1) rfl)) (hw _ (List.mem_of_getElem? (i := 2) rfl)) (hw _ (List.mem_of_getElem? (i := 3) rfl)) (hw _ (List.mem_of_getElem? (i := 4) rfl)) (by decide) pd_0 rfl rfl rfl ⟨by decide, Nat.le_of_ble_eq_true rfl, by decide, by decide⟩ (n := 12) rfl (Ret.on ?_)
  intro T P
  refine stB P at_12 A_b1 (u := 0) ⟨rfl, by decide⟩ lo_b1 (n := 13) rfl ?_
  intro T h5 P W6
  rw [show (own_draw ua).toInt8.toInt32 = (own_draw ua) from (own_drawb ua)] at W6
  replace A_b1 := ARI.set A_b1 W6
  refine aload P at_13 rfl rfl (n := 15) rfl ?_
  refine iconst P at_15 (x := (1 : Int32)) rfl (n := 16) rfl ?_
  refine iloadN P at_16 rfl (n := 17) rfl ?_
  refine callS P at_17 (argsL := [(.int ub)]) (rest := [(.int (1 : Int32)), (.ref b1)]) (c_draw l Z a0 hw ub  h5 n0 P.low ) (hw _ (List.mem_of_getElem? (i := 1) rfl)) (hw _ (List.mem_of_getElem? (i := 2) rfl)) (hw _ (List.mem_of_getElem? (i := 3) rfl)) (hw _ (List.mem_of_getElem? (i := 4) rfl)) (by decide) pd_0 rfl rfl rfl ⟨by decide, Nat.le_of_ble_eq_true rfl, by decide, by decide⟩ (n := 20) rfl (Ret.on ?_)
  intro T P
  refine stB P at_20 A_b1 (u := 1) ⟨rfl, by decide⟩ lo_b1 (n := 21) rfl ?_
  intro T h7 P W8
  rw [show (own_draw ub).toInt8.toInt32 = (own_draw ub) from (own_drawb ub)] at W8
  replace A_b1 := ARI.set A_b1 W8
  refine aload P at_21 rfl rfl (n := 23) rfl ?_
  refine iconst P at_23 (x := (2 : Int32)) rfl (n := 24) rfl ?_
  refine iloadN P at_24 rfl (n := 25) rfl ?_
  refine callS P at_25 (argsL := [(.int uc)]) (rest := [(.int (2 : Int32)), (.ref b1)]) (c_draw l Z a0 hw uc  h7 n0 P.low ) (hw _ (List.mem_of_getElem? (i := 1) rfl)) (hw _ (List.mem_of_getElem? (i := 2) rfl)) (hw _ (List.mem_of_getElem? (i := 3) rfl)) (hw _ (List.mem_of_getElem? (i := 4) rfl)) (by decide) pd_0 rfl rfl rfl ⟨by decide, Nat.le_of_ble_eq_true rfl, by decide, by decide⟩ (n := 28) rfl (Ret.on ?_)
  intro T P
  refine stB P at_28 A_b1 (u := 2) ⟨rfl, by decide⟩ lo_b1 (n := 29) rfl ?_
  intro T h9 P W10
  rw [show (own_draw uc).toInt8.toInt32 = (own_draw uc) from (own_drawb uc)] at W10
  replace A_b1 := ARI.set A_b1 W10
  obtain ⟨gv, hgv⟩ : ∃ g, g = (ovr (ovr (ovr (fun _ => (0 : Int32)) 0 ((own_draw ua))) 1 ((own_draw ub))) 2 ((own_draw uc))) := ⟨_, rfl⟩
  rw [← hgv] at A_b1
  have v0 : gv 0 = own_draw ua := by rw [hgv]; simp [ovr]
  have v1 : gv 1 = own_draw ub := by rw [hgv]; simp [ovr]
  have v2 : gv 2 = own_draw uc := by rw [hgv]; simp [ovr]
  have vb : ∀ i, i < 3 → (gv i).toInt8.toInt32 = gv i := by
    intro i hi
    have hk : i = 0 ∨ i = 1 ∨ i = 2 := by omega
    rcases hk with rfl | rfl | rfl
    · rw [v0]; exact own_drawb _
    · rw [v1]; exact own_drawb _
    · rw [v2]; exact own_drawb _
  refine iloadN P at_29 rfl (n := 30) rfl ?_
  refine ldcI P at_30 (hw _ (List.mem_of_getElem? (i := 5) rfl)) (n := 32) rfl ?_
  refine iand P at_32 (n := 33) rfl ?_
  refine nameI (x := (r &&& (2147483647 : Int32))) (F := fun z11 => Jvm.Own.Ends p e below s room_1 n0 (fun v _ => v = some (.int 1)) T (mkF m 33 #[.val (.int ua), .val (.int ub), .val (.int uc), .val (.int r), .val (.int q), .val (.ref b1), .unset, .unset, .unset, .unset, .unset, .unset, .unset, .unset] [(.int z11)])) ?_
  intro z11 hz11
  have tz11 : z11.toInt = r.toInt % 2147483648 := n_mask 31 hz11 rfl (by decide)
  refine iconst P at_33 (x := (4 : Int32)) rfl (n := 34) rfl ?_
  refine irem P at_34 (by decide) (n := 35) rfl ?_
  refine nameI (x := (z11 % (4 : Int32))) (F := fun z12 => Jvm.Own.Ends p e below s room_1 n0 (fun v _ => v = some (.int 1)) T (mkF m 35 #[.val (.int ua), .val (.int ub), .val (.int uc), .val (.int r), .val (.int q), .val (.ref b1), .unset, .unset, .unset, .unset, .unset, .unset, .unset, .unset] [(.int z12)])) ?_
  intro z12 hz12
  have tz12 : z12.toInt = z11.toInt % (4 : Int) := n_irem hz12 rfl rfl (by omega)
  refine istore P at_35 (l' := #[.val (.int ua), .val (.int ub), .val (.int uc), .val (.int r), .val (.int q), .val (.ref b1), .val (.int z12), .unset, .unset, .unset, .unset, .unset, .unset, .unset]) rfl (n := 37) rfl ?_
  refine iload P at_37 rfl (n := 39) rfl ?_
  refine iloadN P at_39 rfl (n := 40) rfl ?_
  refine iconst P at_40 (x := (2 : Int32)) rfl (n := 41) rfl ?_
  refine iushr P at_41 (n := 42) rfl ?_
  refine nameI (x := ((r.toUInt32 >>> ((2 : Int32) &&& 31).toUInt32).toInt32)) (F := fun z13 => Jvm.Own.Ends p e below s room_1 n0 (fun v _ => v = some (.int 1)) T (mkF m 42 #[.val (.int ua), .val (.int ub), .val (.int uc), .val (.int r), .val (.int q), .val (.ref b1), .val (.int z12), .unset, .unset, .unset, .unset, .unset, .unset, .unset] [(.int z13), (.int z12)])) ?_
  intro z13 hz13
  have tz13 : z13.toInt = (r.toInt % 4294967296) / 4 := n_iushr 2 hz13 rfl (by decide)
  refine ldcI P at_42 (hw _ (List.mem_of_getElem? (i := 5) rfl)) (n := 44) rfl ?_
  refine iand P at_44 (n := 45) rfl ?_
  refine nameI (x := (z13 &&& (2147483647 : Int32))) (F := fun z14 => Jvm.Own.Ends p e below s room_1 n0 (fun v _ => v = some (.int 1)) T (mkF m 45 #[.val (.int ua), .val (.int ub), .val (.int uc), .val (.int r), .val (.int q), .val (.ref b1), .val (.int z12), .unset, .unset, .unset, .unset, .unset, .unset, .unset] [(.int z14), (.int z12)])) ?_
  intro z14 hz14
  have tz14 : z14.toInt = z13.toInt % 2147483648 := n_mask 31 hz14 rfl (by decide)
  refine iconst P at_45 (x := (4 : Int32)) rfl (n := 46) rfl ?_
  refine iload P at_46 rfl (n := 48) rfl ?_
  refine isub P at_48 (n := 49) rfl ?_
  refine nameI (x := ((4 : Int32) - z12)) (F := fun z15 => Jvm.Own.Ends p e below s room_1 n0 (fun v _ => v = some (.int 1)) T (mkF m 49 #[.val (.int ua), .val (.int ub), .val (.int uc), .val (.int r), .val (.int q), .val (.ref b1), .val (.int z12), .unset, .unset, .unset, .unset, .unset, .unset, .unset] [(.int z15), (.int z14), (.int z12)])) ?_
  intro z15 hz15
  have tz15 : z15.toInt = (4 : Int) - z12.toInt := n_isub hz15 rfl rfl (by omega)
  refine irem P at_49 (nzI (by omega)) (n := 50) rfl ?_
  refine nameI (x := (z14 % z15)) (F := fun zt => Jvm.Own.Ends p e below s room_1 n0 (fun v _ => v = some (.int 1)) T (mkF m 50 #[.val (.int ua), .val (.int ub), .val (.int uc), .val (.int r), .val (.int q), .val (.ref b1), .val (.int z12), .unset, .unset, .unset, .unset, .unset, .unset, .unset] [(.int zt), (.int z12)])) ?_
  intro zt hzt
  have tzt := n_iremV hzt (by omega) (by omega)
  refine iadd P at_50 (n := 51) rfl ?_
  refine nameI (x := (z12 + zt)) (F := fun z16 => Jvm.Own.Ends p e below s room_1 n0 (fun v _ => v = some (.int 1)) T (mkF m 51 #[.val (.int ua), .val (.int ub), .val (.int uc), .val (.int r), .val (.int q), .val (.ref b1), .val (.int z12), .unset, .unset, .unset, .unset, .unset, .unset, .unset] [(.int z16)])) ?_
  intro z16 hz16
  have tz16 : z16.toInt = z12.toInt + zt.toInt := n_iadd hz16 rfl rfl (by omega)
  refine istore P at_51 (l' := #[.val (.int ua), .val (.int ub), .val (.int uc), .val (.int r), .val (.int q), .val (.ref b1), .val (.int z12), .val (.int z16), .unset, .unset, .unset, .unset, .unset, .unset]) rfl (n := 53) rfl ?_
  refine iload P at_53 rfl (n := 55) rfl ?_
  refine iconst P at_55 (x := (3 : Int32)) rfl (n := 56) rfl ?_
  refine iand P at_56 (n := 57) rfl ?_
  refine nameI (x := (q &&& (3 : Int32))) (F := fun z17 => Jvm.Own.Ends p e below s room_1 n0 (fun v _ => v = some (.int 1)) T (mkF m 57 #[.val (.int ua), .val (.int ub), .val (.int uc), .val (.int r), .val (.int q), .val (.ref b1), .val (.int z12), .val (.int z16), .unset, .unset, .unset, .unset, .unset, .unset] [(.int z17)])) ?_
  intro z17 hz17
  have tz17 : z17.toInt = q.toInt % 4 := n_mask 2 hz17 rfl (by decide)
  refine istore P at_57 (l' := #[.val (.int ua), .val (.int ub), .val (.int uc), .val (.int r), .val (.int q), .val (.ref b1), .val (.int z12), .val (.int z16), .val (.int z17), .unset, .unset, .unset, .unset, .unset]) rfl (n := 59) rfl ?_
  refine iload P at_59 rfl (n := 61) rfl ?_
  refine iconst P at_61 (x := (2 : Int32)) rfl (n := 62) rfl ?_
  refine ishr P at_62 (n := 63) rfl ?_
  refine i2b P at_63 (n := 64) rfl ?_
  refine istore P at_64 (l' := #[.val (.int ua), .val (.int ub), .val (.int uc), .val (.int r), .val (.int q), .val (.ref b1), .val (.int z12), .val (.int z16), .val (.int z17), .val (.int ((q >>> ((2 : Int32) &&& 31)).toInt8.toInt32)), .unset, .unset, .unset, .unset]) rfl (n := 66) rfl ?_
  refine bipush P at_66 (x := (10 : Int32)) rfl (n := 68) rfl ?_
  refine newP P at_68 (hw _ (List.mem_of_getElem? (i := 0) rfl)) (k := 10) (cap := 10) ⟨rfl, by decide⟩ (by decide) (by decide) (n := 70) rfl ?_
  intro T h19 b18 P X20 g21 lo_b18 A_b18
  have ne_b1_b18 : b1 ≠ b18 := Nat.ne_of_lt (g21 ▸ A_b1.lt)
  replace A_b1 := A_b1.ext X20
  replace A_b18 : ARI Z h19 b18 .byte 10 (fun _ => 0) := A_b18
  refine astore P at_70 rfl (l' := #[.val (.int ua), .val (.int ub), .val (.int uc), .val (.int r), .val (.int q), .val (.ref b1), .val (.int z12), .val (.int z16), .val (.int z17), .val (.int ((q >>> ((2 : Int32) &&& 31)).toInt8.toInt32)), .val (.ref b18), .unset, .unset, .unset]) rfl (n := 72) rfl ?_
  refine bipush P at_72 (x := (10 : Int32)) rfl (n := 74) rfl ?_
  refine newP P at_74 (hw _ (List.mem_of_getElem? (i := 0) rfl)) (k := 10) (cap := 10) ⟨rfl, by decide⟩ (by decide) (by decide) (n := 76) rfl ?_
  intro T h23 b22 P X24 g25 lo_b22 A_b22
  have ne_b1_b22 : b1 ≠ b22 := Nat.ne_of_lt (g25 ▸ A_b1.lt)
  have ne_b18_b22 : b18 ≠ b22 := Nat.ne_of_lt (g25 ▸ A_b18.lt)
  replace A_b1 := A_b1.ext X24
  replace A_b18 := A_b18.ext X24
  replace A_b22 : ARI Z h23 b22 .byte 10 (fun _ => 0) := A_b22
  refine astore P at_76 rfl (l' := #[.val (.int ua), .val (.int ub), .val (.int uc), .val (.int r), .val (.int q), .val (.ref b1), .val (.int z12), .val (.int z16), .val (.int z17), .val (.int ((q >>> ((2 : Int32) &&& 31)).toInt8.toInt32)), .val (.ref b18), .val (.ref b22), .unset, .unset]) rfl (n := 78) rfl ?_
  refine aload P at_78 rfl rfl (n := 80) rfl ?_
  refine iload P at_80 rfl (n := 82) rfl ?_
  refine callS P at_82 (argsL := [(.ref b18), (.int ((q >>> ((2 : Int32) &&& 31)).toInt8.toInt32))]) (rest := []) (c_fill l Z a0 hw b18 ((q >>> ((2 : Int32) &&& 31)).toInt8.toInt32) (fun _ => (0 : Int32)) h23 n0 P.low A_b18 lo_b18 (b8 _)) (hw _ (List.mem_of_getElem? (i := 6) rfl)) (hw _ (List.mem_of_getElem? (i := 7) rfl)) (hw _ (List.mem_of_getElem? (i := 3) rfl)) (hw _ (List.mem_of_getElem? (i := 8) rfl)) (by decide) pd_1 rfl rfl rfl ⟨by decide, Nat.le_of_ble_eq_true rfl, by decide, by decide⟩ (n := 85) rfl ?_
  rintro T h26 v P ⟨rfl, A_b18, K27⟩
  replace A_b1 := A_b1.keep K27 (ninS ne_b1_b18 nin0)
  replace A_b22 := A_b22.keep K27 (ninS (Ne.symm ne_b18_b22) nin0)
  show Jvm.Own.Ends p e below s room_1 n0 (fun v _ => v = some (.int 1)) T (mkF m 85 #[.val (.int ua), .val (.int ub), .val (.int uc), .val (.int r), .val (.int q), .val (.ref b1), .val (.int z12), .val (.int z16), .val (.int z17), .val (.int ((q >>> ((2 : Int32) &&& 31)).toInt8.toInt32)), .val (.ref b18), .val (.ref b22), .unset, .unset] [])
  refine aload P at_85 rfl rfl (n := 87) rfl ?_
  refine iload P at_87 rfl (n := 89) rfl ?_
  refine callS P at_89 (argsL := [(.ref b22), (.int ((q >>> ((2 : Int32) &&& 31)).toInt8.toInt32))]) (rest := []) (c_fill l Z a0 hw b22 ((q >>> ((2 : Int32) &&& 31)).toInt8.toInt32) (fun _ => (0 : Int32)) h26 n0 P.low A_b22 lo_b22 (b8 _)) (hw _ (List.mem_of_getElem? (i := 6) rfl)) (hw _ (List.mem_of_getElem? (i := 7) rfl)) (hw _ (List.mem_of_getElem? (i := 3) rfl)) (hw _ (List.mem_of_getElem? (i := 8) rfl)) (by decide) pd_1 rfl rfl rfl ⟨by decide, Nat.le_of_ble_eq_true rfl, by decide, by decide⟩ (n := 92) rfl ?_
  rintro T h28 v P ⟨rfl, A_b22, K29⟩
  replace A_b1 := A_b1.keep K29 (ninS ne_b1_b22 nin0)
  replace A_b18 := A_b18.keep K29 (ninS ne_b18_b22 nin0)
  show Jvm.Own.Ends p e below s room_1 n0 (fun v _ => v = some (.int 1)) T (mkF m 92 #[.val (.int ua), .val (.int ub), .val (.int uc), .val (.int r), .val (.int q), .val (.ref b1), .val (.int z12), .val (.int z16), .val (.int z17), .val (.int ((q >>> ((2 : Int32) &&& 31)).toInt8.toInt32)), .val (.ref b18), .val (.ref b22), .unset, .unset] [])
  refine iload P at_92 rfl (n := 94) rfl ?_
  refine istore P at_94 (l' := #[.val (.int ua), .val (.int ub), .val (.int uc), .val (.int r), .val (.int q), .val (.ref b1), .val (.int z12), .val (.int z16), .val (.int z17), .val (.int ((q >>> ((2 : Int32) &&& 31)).toInt8.toInt32)), .val (.ref b18), .val (.ref b22), .val (.int z17), .unset]) rfl (n := 96) rfl ?_
  have J : ∀ (T : State) (h9 : Heap) (zp : Int32) (ge : Nat → Int32) (kp : Nat), Jvm.Own.Pos p l e room_1 s m args below meth c Z "com/example/sessionloom/sessionloom/TabSeparatedEscapePinLaw" "law" code maxLocals ret n0 T h9 3 23 → ARI Z h9 b1 .byte 3 gv → ARI Z h9 b18 .byte 10 (fun _ => ((q >>> ((2 : Int32) &&& 31)).toInt8.toInt32)) → ARI Z h9 b22 .byte 10 ge → zp.toInt = kp → own_run gv z12.toInt.toNat (z16.toInt - z12.toInt).toNat ((fun _ => ((q >>> ((2 : Int32) &&& 31)).toInt8.toInt32)), z17.toInt.toNat) = (ge, kp) → Jvm.Own.Ends p e below s room_1 n0 (fun v _ => v = some (.int 1)) T (mkF m 170 #[.val (.int ua), .val (.int ub), .val (.int uc), .val (.int r), .val (.int q), .val (.ref b1), .val (.int z12), .val (.int z16), .val (.int z17), .val (.int ((q >>> ((2 : Int32) &&& 31)).toInt8.toInt32)), .val (.ref b18), .val (.ref b22), .val (.int zp), .unset] []) := by
    intro T h9 zp ge kp P A_b1 A_b18 A_b22 tzp hR
    refine aload P at_170 rfl rfl (n := 172) rfl ?_
    refine iload P at_172 rfl (n := 174) rfl ?_
    refine iload P at_174 rfl (n := 176) rfl ?_
    refine aload P at_176 rfl rfl (n := 178) rfl ?_
    refine iload P at_178 rfl (n := 180) rfl ?_
    refine callS P at_180 (argsL := [(.ref b1), (.int z12), (.int z16), (.ref b18), (.int z17)]) (rest := []) (c_esc l Z a0 hw b1 z12 z16 b18 z17 gv (fun _ => ((q >>> ((2 : Int32) &&& 31)).toInt8.toInt32)) z17.toInt.toNat h9 n0 P.low A_b1 A_b18 ne_b1_b18 lo_b18 (by omega) ⟨by omega, trivial⟩ vb) (hw _ (List.mem_of_getElem? (i := 9) rfl)) (hw _ (List.mem_of_getElem? (i := 10) rfl)) (hw _ (List.mem_of_getElem? (i := 11) rfl)) (hw _ (List.mem_of_getElem? (i := 12) rfl)) (by decide) pd_3 rfl rfl rfl ⟨by decide, Nat.le_of_ble_eq_true rfl, by decide, by decide⟩ (n := 183) rfl ?_
    rintro T h30 v P ⟨r32, rfl, tr32, A_b18, K31⟩
    replace A_b1 := A_b1.keep K31 (ninS ne_b1_b18 nin0)
    replace A_b22 := A_b22.keep K31 (ninS (Ne.symm ne_b18_b22) nin0)
    show Jvm.Own.Ends p e below s room_1 n0 (fun v _ => v = some (.int 1)) T (mkF m 183 #[.val (.int ua), .val (.int ub), .val (.int uc), .val (.int r), .val (.int q), .val (.ref b1), .val (.int z12), .val (.int z16), .val (.int z17), .val (.int ((q >>> ((2 : Int32) &&& 31)).toInt8.toInt32)), .val (.ref b18), .val (.ref b22), .val (.int zp), .unset] [(.int r32)])
    rw [hR] at tr32
    rw [hR] at A_b18
    dsimp only at tr32 A_b18
    refine istore P at_183 (l' := #[.val (.int ua), .val (.int ub), .val (.int uc), .val (.int r), .val (.int q), .val (.ref b1), .val (.int z12), .val (.int z16), .val (.int z17), .val (.int ((q >>> ((2 : Int32) &&& 31)).toInt8.toInt32)), .val (.ref b18), .val (.ref b22), .val (.int zp), .val (.int r32)]) rfl (n := 185) rfl ?_
    refine iload P at_185 rfl (n := 187) rfl ?_
    refine iload P at_187 rfl (n := 189) rfl ?_
    refine icmp_ne P at_189 (n' := 239) (n := 192) (by decide) rfl (fun hc189 => ?_) (fun hc189 => ?_)
    · -- pc 189 taken
      exfalso; omega
    · -- pc 189 not taken
      refine aload P at_192 rfl rfl (n := 194) rfl ?_
      refine aload P at_194 rfl rfl (n := 196) rfl ?_
      refine callS P at_196 (argsL := [(.ref b18), (.ref b22)]) (rest := []) (c_same l Z a0 hw b18 b22 ge h30 n0 P.low A_b18 A_b22) (hw _ (List.mem_of_getElem? (i := 13) rfl)) (hw _ (List.mem_of_getElem? (i := 14) rfl)) (hw _ (List.mem_of_getElem? (i := 3) rfl)) (hw _ (List.mem_of_getElem? (i := 15) rfl)) (by decide) pd_4 rfl rfl rfl ⟨by decide, Nat.le_of_ble_eq_true rfl, by decide, by decide⟩ (n := 199) rfl (Ret.on ?_)
      intro T P
      refine if0_eq P at_199 (n' := 239) (n := 202) (by decide) rfl (fun hc199 => ?_) (fun hc199 => ?_)
      · -- pc 199 taken
        replace hc199 : (1 : Int) = (0 : Int) := hc199
        exact absurd hc199 (by decide)
      · -- pc 199 not taken
        replace hc199 : ¬ (1 : Int) = (0 : Int) := hc199
        refine aload P at_202 rfl rfl (n := 204) rfl ?_
        refine iconst P at_204 (x := (0 : Int32)) rfl (n := 205) rfl ?_
        refine baloadI P at_205 A_b1 (u := 0) ⟨rfl, by decide⟩ (n := 206) rfl ?_
        refine iloadN P at_206 rfl (n := 207) rfl ?_
        refine callS P at_207 (argsL := [(.int ua)]) (rest := [(.int (gv 0))]) (c_draw l Z a0 hw ua  h30 n0 P.low ) (hw _ (List.mem_of_getElem? (i := 1) rfl)) (hw _ (List.mem_of_getElem? (i := 2) rfl)) (hw _ (List.mem_of_getElem? (i := 3) rfl)) (hw _ (List.mem_of_getElem? (i := 4) rfl)) (by decide) pd_0 rfl rfl rfl ⟨by decide, Nat.le_of_ble_eq_true rfl, by decide, by decide⟩ (n := 210) rfl (Ret.on ?_)
        intro T P
        refine icmp_ne P at_210 (n' := 239) (n := 213) (by decide) rfl (fun hc210 => ?_) (fun hc210 => ?_)
        · -- pc 210 taken
          exact absurd (by rw [v0]) hc210
        · -- pc 210 not taken
          refine aload P at_213 rfl rfl (n := 215) rfl ?_
          refine iconst P at_215 (x := (1 : Int32)) rfl (n := 216) rfl ?_
          refine baloadI P at_216 A_b1 (u := 1) ⟨rfl, by decide⟩ (n := 217) rfl ?_
          refine iloadN P at_217 rfl (n := 218) rfl ?_
          refine callS P at_218 (argsL := [(.int ub)]) (rest := [(.int (gv 1))]) (c_draw l Z a0 hw ub  h30 n0 P.low ) (hw _ (List.mem_of_getElem? (i := 1) rfl)) (hw _ (List.mem_of_getElem? (i := 2) rfl)) (hw _ (List.mem_of_getElem? (i := 3) rfl)) (hw _ (List.mem_of_getElem? (i := 4) rfl)) (by decide) pd_0 rfl rfl rfl ⟨by decide, Nat.le_of_ble_eq_true rfl, by decide, by decide⟩ (n := 221) rfl (Ret.on ?_)
          intro T P
          refine icmp_ne P at_221 (n' := 239) (n := 224) (by decide) rfl (fun hc221 => ?_) (fun hc221 => ?_)
          · -- pc 221 taken
            exact absurd (by rw [v1]) hc221
          · -- pc 221 not taken
            refine aload P at_224 rfl rfl (n := 226) rfl ?_
            refine iconst P at_226 (x := (2 : Int32)) rfl (n := 227) rfl ?_
            refine baloadI P at_227 A_b1 (u := 2) ⟨rfl, by decide⟩ (n := 228) rfl ?_
            refine iloadN P at_228 rfl (n := 229) rfl ?_
            refine callS P at_229 (argsL := [(.int uc)]) (rest := [(.int (gv 2))]) (c_draw l Z a0 hw uc  h30 n0 P.low ) (hw _ (List.mem_of_getElem? (i := 1) rfl)) (hw _ (List.mem_of_getElem? (i := 2) rfl)) (hw _ (List.mem_of_getElem? (i := 3) rfl)) (hw _ (List.mem_of_getElem? (i := 4) rfl)) (by decide) pd_0 rfl rfl rfl ⟨by decide, Nat.le_of_ble_eq_true rfl, by decide, by decide⟩ (n := 232) rfl (Ret.on ?_)
            intro T P
            refine icmp_ne P at_232 (n' := 239) (n := 235) (by decide) rfl (fun hc232 => ?_) (fun hc232 => ?_)
            · -- pc 232 taken
              exact absurd (by rw [v2]) hc232
            · -- pc 232 not taken
              refine iconst P at_235 (x := (1 : Int32)) rfl (n := 236) rfl ?_
              refine goto P at_236 (n := 240) (by decide) ?_
              refine retZ P at_240 (by decide) (by decide) (by decide) ?_
              exact rfl
  refine iload P at_96 rfl (n := 98) rfl ?_
  refine if0_gt P at_98 (n' := 120) (n := 101) (by decide) rfl (fun hc98 => ?_) (fun hc98 => ?_)
  · -- pc 98 taken
    replace hc98 : (0 : Int) < z12.toInt := hc98
    refine iload P at_120 rfl (n := 122) rfl ?_
    refine iconst P at_122 (x := (1 : Int32)) rfl (n := 123) rfl ?_
    refine icmp_gt P at_123 (n' := 145) (n := 126) (by decide) rfl (fun hc123 => ?_) (fun hc123 => ?_)
    · -- pc 123 taken
      replace hc123 : (1 : Int) < z12.toInt := hc123
      refine iload P at_145 rfl (n := 147) rfl ?_
      refine iconst P at_147 (x := (2 : Int32)) rfl (n := 148) rfl ?_
      refine icmp_gt P at_148 (n' := 170) (n := 151) (by decide) rfl (fun hc148 => ?_) (fun hc148 => ?_)
      · -- pc 148 taken
        replace hc148 : (2 : Int) < z12.toInt := hc148
        have n1 : (z16.toInt - z12.toInt).toNat = 0 := by omega
        exact J T _ _ (fun _ => ((q >>> ((2 : Int32) &&& 31)).toInt8.toInt32)) z17.toInt.toNat P A_b1 A_b18 A_b22 (by omega) (by rw [n1]; rfl)
      · -- pc 148 not taken
        replace hc148 : z12.toInt ≤ (2 : Int) := hc148
        refine iconst P at_151 (x := (2 : Int32)) rfl (n := 152) rfl ?_
        refine iload P at_152 rfl (n := 154) rfl ?_
        refine icmp_ge P at_154 (n' := 170) (n := 157) (by decide) rfl (fun hc154 => ?_) (fun hc154 => ?_)
        · -- pc 154 taken
          replace hc154 : z16.toInt ≤ (2 : Int) := hc154
          have n1 : (z16.toInt - z12.toInt).toNat = 0 := by omega
          exact J T _ _ (fun _ => ((q >>> ((2 : Int32) &&& 31)).toInt8.toInt32)) z17.toInt.toNat P A_b1 A_b18 A_b22 (by omega) (by rw [n1]; rfl)
        · -- pc 154 not taken
          replace hc154 : (2 : Int) < z16.toInt := hc154
          refine aload P at_157 rfl rfl (n := 159) rfl ?_
          refine iload P at_159 rfl (n := 161) rfl ?_
          refine aload P at_161 rfl rfl (n := 163) rfl ?_
          refine iconst P at_163 (x := (2 : Int32)) rfl (n := 164) rfl ?_
          refine baloadI P at_164 A_b1 (u := 2) ⟨rfl, by decide⟩ (n := 165) rfl ?_
          refine callS P at_165 (argsL := [(.ref b22), (.int z17), (.int (gv 2))]) (rest := []) (c_put l Z a0 hw b22 z17 (gv 2) (fun _ => ((q >>> ((2 : Int32) &&& 31)).toInt8.toInt32)) z17.toInt.toNat h28 n0 P.low A_b22 lo_b22 ⟨by omega, by omega⟩ (vb _ (by decide))) (hw _ (List.mem_of_getElem? (i := 16) rfl)) (hw _ (List.mem_of_getElem? (i := 17) rfl)) (hw _ (List.mem_of_getElem? (i := 3) rfl)) (hw _ (List.mem_of_getElem? (i := 18) rfl)) (by decide) pd_2 rfl rfl rfl ⟨by decide, Nat.le_of_ble_eq_true rfl, by decide, by decide⟩ (n := 168) rfl ?_
          rintro T h33 v P ⟨r35, rfl, tr35, A_b22, K34⟩
          replace A_b1 := A_b1.keep K34 (ninS ne_b1_b22 nin0)
          replace A_b18 := A_b18.keep K34 (ninS ne_b18_b22 nin0)
          show Jvm.Own.Ends p e below s room_1 n0 (fun v _ => v = some (.int 1)) T (mkF m 168 #[.val (.int ua), .val (.int ub), .val (.int uc), .val (.int r), .val (.int q), .val (.ref b1), .val (.int z12), .val (.int z16), .val (.int z17), .val (.int ((q >>> ((2 : Int32) &&& 31)).toInt8.toInt32)), .val (.ref b18), .val (.ref b22), .val (.int z17), .unset] [(.int r35)])
          have ur35 := own_put_le ((fun _ => ((q >>> ((2 : Int32) &&& 31)).toInt8.toInt32)), z17.toInt.toNat) (gv 2)
          dsimp only at ur35
          refine istore P at_168 (l' := #[.val (.int ua), .val (.int ub), .val (.int uc), .val (.int r), .val (.int q), .val (.ref b1), .val (.int z12), .val (.int z16), .val (.int z17), .val (.int ((q >>> ((2 : Int32) &&& 31)).toInt8.toInt32)), .val (.ref b18), .val (.ref b22), .val (.int r35), .unset]) rfl (n := 170) rfl ?_
          have n1 : (z16.toInt - z12.toInt).toNat = 1 := by omega
          have n2 : z12.toInt.toNat = 2 := by omega
          exact J T _ _ (own_put ((fun _ => ((q >>> ((2 : Int32) &&& 31)).toInt8.toInt32)), z17.toInt.toNat) (gv 2)).1 (own_put ((fun _ => ((q >>> ((2 : Int32) &&& 31)).toInt8.toInt32)), z17.toInt.toNat) (gv 2)).2 P A_b1 A_b18 A_b22 tr35 (by rw [n1, n2]; rfl)
    · -- pc 123 not taken
      replace hc123 : z12.toInt ≤ (1 : Int) := hc123
      refine iconst P at_126 (x := (1 : Int32)) rfl (n := 127) rfl ?_
      refine iload P at_127 rfl (n := 129) rfl ?_
      refine icmp_ge P at_129 (n' := 145) (n := 132) (by decide) rfl (fun hc129 => ?_) (fun hc129 => ?_)
      · -- pc 129 taken
        replace hc129 : z16.toInt ≤ (1 : Int) := hc129
        refine iload P at_145 rfl (n := 147) rfl ?_
        refine iconst P at_147 (x := (2 : Int32)) rfl (n := 148) rfl ?_
        refine icmp_gt P at_148 (n' := 170) (n := 151) (by decide) rfl (fun hc148 => ?_) (fun hc148 => ?_)
        · -- pc 148 taken
          replace hc148 : (2 : Int) < z12.toInt := hc148
          exfalso; omega
        · -- pc 148 not taken
          replace hc148 : z12.toInt ≤ (2 : Int) := hc148
          refine iconst P at_151 (x := (2 : Int32)) rfl (n := 152) rfl ?_
          refine iload P at_152 rfl (n := 154) rfl ?_
          refine icmp_ge P at_154 (n' := 170) (n := 157) (by decide) rfl (fun hc154 => ?_) (fun hc154 => ?_)
          · -- pc 154 taken
            replace hc154 : z16.toInt ≤ (2 : Int) := hc154
            have n1 : (z16.toInt - z12.toInt).toNat = 0 := by omega
            exact J T _ _ (fun _ => ((q >>> ((2 : Int32) &&& 31)).toInt8.toInt32)) z17.toInt.toNat P A_b1 A_b18 A_b22 (by omega) (by rw [n1]; rfl)
          · -- pc 154 not taken
            replace hc154 : (2 : Int) < z16.toInt := hc154
            exfalso; omega
      · -- pc 129 not taken
        replace hc129 : (1 : Int) < z16.toInt := hc129
        refine aload P at_132 rfl rfl (n := 134) rfl ?_
        refine iload P at_134 rfl (n := 136) rfl ?_
        refine aload P at_136 rfl rfl (n := 138) rfl ?_
        refine iconst P at_138 (x := (1 : Int32)) rfl (n := 139) rfl ?_
        refine baloadI P at_139 A_b1 (u := 1) ⟨rfl, by decide⟩ (n := 140) rfl ?_
        refine callS P at_140 (argsL := [(.ref b22), (.int z17), (.int (gv 1))]) (rest := []) (c_put l Z a0 hw b22 z17 (gv 1) (fun _ => ((q >>> ((2 : Int32) &&& 31)).toInt8.toInt32)) z17.toInt.toNat h28 n0 P.low A_b22 lo_b22 ⟨by omega, by omega⟩ (vb _ (by decide))) (hw _ (List.mem_of_getElem? (i := 16) rfl)) (hw _ (List.mem_of_getElem? (i := 17) rfl)) (hw _ (List.mem_of_getElem? (i := 3) rfl)) (hw _ (List.mem_of_getElem? (i := 18) rfl)) (by decide) pd_2 rfl rfl rfl ⟨by decide, Nat.le_of_ble_eq_true rfl, by decide, by decide⟩ (n := 143) rfl ?_
        rintro T h36 v P ⟨r38, rfl, tr38, A_b22, K37⟩
        replace A_b1 := A_b1.keep K37 (ninS ne_b1_b22 nin0)
        replace A_b18 := A_b18.keep K37 (ninS ne_b18_b22 nin0)
        show Jvm.Own.Ends p e below s room_1 n0 (fun v _ => v = some (.int 1)) T (mkF m 143 #[.val (.int ua), .val (.int ub), .val (.int uc), .val (.int r), .val (.int q), .val (.ref b1), .val (.int z12), .val (.int z16), .val (.int z17), .val (.int ((q >>> ((2 : Int32) &&& 31)).toInt8.toInt32)), .val (.ref b18), .val (.ref b22), .val (.int z17), .unset] [(.int r38)])
        have ur38 := own_put_le ((fun _ => ((q >>> ((2 : Int32) &&& 31)).toInt8.toInt32)), z17.toInt.toNat) (gv 1)
        dsimp only at ur38
        refine istore P at_143 (l' := #[.val (.int ua), .val (.int ub), .val (.int uc), .val (.int r), .val (.int q), .val (.ref b1), .val (.int z12), .val (.int z16), .val (.int z17), .val (.int ((q >>> ((2 : Int32) &&& 31)).toInt8.toInt32)), .val (.ref b18), .val (.ref b22), .val (.int r38), .unset]) rfl (n := 145) rfl ?_
        refine iload P at_145 rfl (n := 147) rfl ?_
        refine iconst P at_147 (x := (2 : Int32)) rfl (n := 148) rfl ?_
        refine icmp_gt P at_148 (n' := 170) (n := 151) (by decide) rfl (fun hc148 => ?_) (fun hc148 => ?_)
        · -- pc 148 taken
          replace hc148 : (2 : Int) < z12.toInt := hc148
          exfalso; omega
        · -- pc 148 not taken
          replace hc148 : z12.toInt ≤ (2 : Int) := hc148
          refine iconst P at_151 (x := (2 : Int32)) rfl (n := 152) rfl ?_
          refine iload P at_152 rfl (n := 154) rfl ?_
          refine icmp_ge P at_154 (n' := 170) (n := 157) (by decide) rfl (fun hc154 => ?_) (fun hc154 => ?_)
          · -- pc 154 taken
            replace hc154 : z16.toInt ≤ (2 : Int) := hc154
            have n1 : (z16.toInt - z12.toInt).toNat = 1 := by omega
            have n2 : z12.toInt.toNat = 1 := by omega
            exact J T _ _ (own_put ((fun _ => ((q >>> ((2 : Int32) &&& 31)).toInt8.toInt32)), z17.toInt.toNat) (gv 1)).1 (own_put ((fun _ => ((q >>> ((2 : Int32) &&& 31)).toInt8.toInt32)), z17.toInt.toNat) (gv 1)).2 P A_b1 A_b18 A_b22 tr38 (by rw [n1, n2]; rfl)
          · -- pc 154 not taken
            replace hc154 : (2 : Int) < z16.toInt := hc154
            refine aload P at_157 rfl rfl (n := 159) rfl ?_
            refine iload P at_159 rfl (n := 161) rfl ?_
            refine aload P at_161 rfl rfl (n := 163) rfl ?_
            refine iconst P at_163 (x := (2 : Int32)) rfl (n := 164) rfl ?_
            refine baloadI P at_164 A_b1 (u := 2) ⟨rfl, by decide⟩ (n := 165) rfl ?_
            refine callS P at_165 (argsL := [(.ref b22), (.int r38), (.int (gv 2))]) (rest := []) (c_put l Z a0 hw b22 r38 (gv 2) (own_put ((fun _ => ((q >>> ((2 : Int32) &&& 31)).toInt8.toInt32)), z17.toInt.toNat) (gv 1)).1 (own_put ((fun _ => ((q >>> ((2 : Int32) &&& 31)).toInt8.toInt32)), z17.toInt.toNat) (gv 1)).2 h36 n0 P.low A_b22 lo_b22 ⟨tr38, by omega⟩ (vb _ (by decide))) (hw _ (List.mem_of_getElem? (i := 16) rfl)) (hw _ (List.mem_of_getElem? (i := 17) rfl)) (hw _ (List.mem_of_getElem? (i := 3) rfl)) (hw _ (List.mem_of_getElem? (i := 18) rfl)) (by decide) pd_2 rfl rfl rfl ⟨by decide, Nat.le_of_ble_eq_true rfl, by decide, by decide⟩ (n := 168) rfl ?_
            rintro T h39 v P ⟨r41, rfl, tr41, A_b22, K40⟩
            replace A_b1 := A_b1.keep K40 (ninS ne_b1_b22 nin0)
            replace A_b18 := A_b18.keep K40 (ninS ne_b18_b22 nin0)
            show Jvm.Own.Ends p e below s room_1 n0 (fun v _ => v = some (.int 1)) T (mkF m 168 #[.val (.int ua), .val (.int ub), .val (.int uc), .val (.int r), .val (.int q), .val (.ref b1), .val (.int z12), .val (.int z16), .val (.int z17), .val (.int ((q >>> ((2 : Int32) &&& 31)).toInt8.toInt32)), .val (.ref b18), .val (.ref b22), .val (.int r38), .unset] [(.int r41)])
            have ur41 := own_put_le ((own_put ((fun _ => ((q >>> ((2 : Int32) &&& 31)).toInt8.toInt32)), z17.toInt.toNat) (gv 1)).1, (own_put ((fun _ => ((q >>> ((2 : Int32) &&& 31)).toInt8.toInt32)), z17.toInt.toNat) (gv 1)).2) (gv 2)
            dsimp only at ur41
            refine istore P at_168 (l' := #[.val (.int ua), .val (.int ub), .val (.int uc), .val (.int r), .val (.int q), .val (.ref b1), .val (.int z12), .val (.int z16), .val (.int z17), .val (.int ((q >>> ((2 : Int32) &&& 31)).toInt8.toInt32)), .val (.ref b18), .val (.ref b22), .val (.int r41), .unset]) rfl (n := 170) rfl ?_
            have n1 : (z16.toInt - z12.toInt).toNat = 2 := by omega
            have n2 : z12.toInt.toNat = 1 := by omega
            exact J T _ _ (own_put ((own_put ((fun _ => ((q >>> ((2 : Int32) &&& 31)).toInt8.toInt32)), z17.toInt.toNat) (gv 1)).1, (own_put ((fun _ => ((q >>> ((2 : Int32) &&& 31)).toInt8.toInt32)), z17.toInt.toNat) (gv 1)).2) (gv 2)).1 (own_put ((own_put ((fun _ => ((q >>> ((2 : Int32) &&& 31)).toInt8.toInt32)), z17.toInt.toNat) (gv 1)).1, (own_put ((fun _ => ((q >>> ((2 : Int32) &&& 31)).toInt8.toInt32)), z17.toInt.toNat) (gv 1)).2) (gv 2)).2 P A_b1 A_b18 A_b22 tr41 (by rw [n1, n2]; rfl)
  · -- pc 98 not taken
    replace hc98 : z12.toInt ≤ (0 : Int) := hc98
    refine iconst P at_101 (x := (0 : Int32)) rfl (n := 102) rfl ?_
    refine iload P at_102 rfl (n := 104) rfl ?_
    refine icmp_ge P at_104 (n' := 120) (n := 107) (by decide) rfl (fun hc104 => ?_) (fun hc104 => ?_)
    · -- pc 104 taken
      replace hc104 : z16.toInt ≤ (0 : Int) := hc104
      refine iload P at_120 rfl (n := 122) rfl ?_
      refine iconst P at_122 (x := (1 : Int32)) rfl (n := 123) rfl ?_
      refine icmp_gt P at_123 (n' := 145) (n := 126) (by decide) rfl (fun hc123 => ?_) (fun hc123 => ?_)
      · -- pc 123 taken
        replace hc123 : (1 : Int) < z12.toInt := hc123
        exfalso; omega
      · -- pc 123 not taken
        replace hc123 : z12.toInt ≤ (1 : Int) := hc123
        refine iconst P at_126 (x := (1 : Int32)) rfl (n := 127) rfl ?_
        refine iload P at_127 rfl (n := 129) rfl ?_
        refine icmp_ge P at_129 (n' := 145) (n := 132) (by decide) rfl (fun hc129 => ?_) (fun hc129 => ?_)
        · -- pc 129 taken
          replace hc129 : z16.toInt ≤ (1 : Int) := hc129
          refine iload P at_145 rfl (n := 147) rfl ?_
          refine iconst P at_147 (x := (2 : Int32)) rfl (n := 148) rfl ?_
          refine icmp_gt P at_148 (n' := 170) (n := 151) (by decide) rfl (fun hc148 => ?_) (fun hc148 => ?_)
          · -- pc 148 taken
            replace hc148 : (2 : Int) < z12.toInt := hc148
            exfalso; omega
          · -- pc 148 not taken
            replace hc148 : z12.toInt ≤ (2 : Int) := hc148
            refine iconst P at_151 (x := (2 : Int32)) rfl (n := 152) rfl ?_
            refine iload P at_152 rfl (n := 154) rfl ?_
            refine icmp_ge P at_154 (n' := 170) (n := 157) (by decide) rfl (fun hc154 => ?_) (fun hc154 => ?_)
            · -- pc 154 taken
              replace hc154 : z16.toInt ≤ (2 : Int) := hc154
              have n1 : (z16.toInt - z12.toInt).toNat = 0 := by omega
              exact J T _ _ (fun _ => ((q >>> ((2 : Int32) &&& 31)).toInt8.toInt32)) z17.toInt.toNat P A_b1 A_b18 A_b22 (by omega) (by rw [n1]; rfl)
            · -- pc 154 not taken
              replace hc154 : (2 : Int) < z16.toInt := hc154
              exfalso; omega
        · -- pc 129 not taken
          replace hc129 : (1 : Int) < z16.toInt := hc129
          exfalso; omega
    · -- pc 104 not taken
      replace hc104 : (0 : Int) < z16.toInt := hc104
      refine aload P at_107 rfl rfl (n := 109) rfl ?_
      refine iload P at_109 rfl (n := 111) rfl ?_
      refine aload P at_111 rfl rfl (n := 113) rfl ?_
      refine iconst P at_113 (x := (0 : Int32)) rfl (n := 114) rfl ?_
      refine baloadI P at_114 A_b1 (u := 0) ⟨rfl, by decide⟩ (n := 115) rfl ?_
      refine callS P at_115 (argsL := [(.ref b22), (.int z17), (.int (gv 0))]) (rest := []) (c_put l Z a0 hw b22 z17 (gv 0) (fun _ => ((q >>> ((2 : Int32) &&& 31)).toInt8.toInt32)) z17.toInt.toNat h28 n0 P.low A_b22 lo_b22 ⟨by omega, by omega⟩ (vb _ (by decide))) (hw _ (List.mem_of_getElem? (i := 16) rfl)) (hw _ (List.mem_of_getElem? (i := 17) rfl)) (hw _ (List.mem_of_getElem? (i := 3) rfl)) (hw _ (List.mem_of_getElem? (i := 18) rfl)) (by decide) pd_2 rfl rfl rfl ⟨by decide, Nat.le_of_ble_eq_true rfl, by decide, by decide⟩ (n := 118) rfl ?_
      rintro T h42 v P ⟨r44, rfl, tr44, A_b22, K43⟩
      replace A_b1 := A_b1.keep K43 (ninS ne_b1_b22 nin0)
      replace A_b18 := A_b18.keep K43 (ninS ne_b18_b22 nin0)
      show Jvm.Own.Ends p e below s room_1 n0 (fun v _ => v = some (.int 1)) T (mkF m 118 #[.val (.int ua), .val (.int ub), .val (.int uc), .val (.int r), .val (.int q), .val (.ref b1), .val (.int z12), .val (.int z16), .val (.int z17), .val (.int ((q >>> ((2 : Int32) &&& 31)).toInt8.toInt32)), .val (.ref b18), .val (.ref b22), .val (.int z17), .unset] [(.int r44)])
      have ur44 := own_put_le ((fun _ => ((q >>> ((2 : Int32) &&& 31)).toInt8.toInt32)), z17.toInt.toNat) (gv 0)
      dsimp only at ur44
      refine istore P at_118 (l' := #[.val (.int ua), .val (.int ub), .val (.int uc), .val (.int r), .val (.int q), .val (.ref b1), .val (.int z12), .val (.int z16), .val (.int z17), .val (.int ((q >>> ((2 : Int32) &&& 31)).toInt8.toInt32)), .val (.ref b18), .val (.ref b22), .val (.int r44), .unset]) rfl (n := 120) rfl ?_
      refine iload P at_120 rfl (n := 122) rfl ?_
      refine iconst P at_122 (x := (1 : Int32)) rfl (n := 123) rfl ?_
      refine icmp_gt P at_123 (n' := 145) (n := 126) (by decide) rfl (fun hc123 => ?_) (fun hc123 => ?_)
      · -- pc 123 taken
        replace hc123 : (1 : Int) < z12.toInt := hc123
        exfalso; omega
      · -- pc 123 not taken
        replace hc123 : z12.toInt ≤ (1 : Int) := hc123
        refine iconst P at_126 (x := (1 : Int32)) rfl (n := 127) rfl ?_
        refine iload P at_127 rfl (n := 129) rfl ?_
        refine icmp_ge P at_129 (n' := 145) (n := 132) (by decide) rfl (fun hc129 => ?_) (fun hc129 => ?_)
        · -- pc 129 taken
          replace hc129 : z16.toInt ≤ (1 : Int) := hc129
          refine iload P at_145 rfl (n := 147) rfl ?_
          refine iconst P at_147 (x := (2 : Int32)) rfl (n := 148) rfl ?_
          refine icmp_gt P at_148 (n' := 170) (n := 151) (by decide) rfl (fun hc148 => ?_) (fun hc148 => ?_)
          · -- pc 148 taken
            replace hc148 : (2 : Int) < z12.toInt := hc148
            exfalso; omega
          · -- pc 148 not taken
            replace hc148 : z12.toInt ≤ (2 : Int) := hc148
            refine iconst P at_151 (x := (2 : Int32)) rfl (n := 152) rfl ?_
            refine iload P at_152 rfl (n := 154) rfl ?_
            refine icmp_ge P at_154 (n' := 170) (n := 157) (by decide) rfl (fun hc154 => ?_) (fun hc154 => ?_)
            · -- pc 154 taken
              replace hc154 : z16.toInt ≤ (2 : Int) := hc154
              have n1 : (z16.toInt - z12.toInt).toNat = 1 := by omega
              have n2 : z12.toInt.toNat = 0 := by omega
              exact J T _ _ (own_put ((fun _ => ((q >>> ((2 : Int32) &&& 31)).toInt8.toInt32)), z17.toInt.toNat) (gv 0)).1 (own_put ((fun _ => ((q >>> ((2 : Int32) &&& 31)).toInt8.toInt32)), z17.toInt.toNat) (gv 0)).2 P A_b1 A_b18 A_b22 tr44 (by rw [n1, n2]; rfl)
            · -- pc 154 not taken
              replace hc154 : (2 : Int) < z16.toInt := hc154
              exfalso; omega
        · -- pc 129 not taken
          replace hc129 : (1 : Int) < z16.toInt := hc129
          refine aload P at_132 rfl rfl (n := 134) rfl ?_
          refine iload P at_134 rfl (n := 136) rfl ?_
          refine aload P at_136 rfl rfl (n := 138) rfl ?_
          refine iconst P at_138 (x := (1 : Int32)) rfl (n := 139) rfl ?_
          refine baloadI P at_139 A_b1 (u := 1) ⟨rfl, by decide⟩ (n := 140) rfl ?_
          refine callS P at_140 (argsL := [(.ref b22), (.int r44), (.int (gv 1))]) (rest := []) (c_put l Z a0 hw b22 r44 (gv 1) (own_put ((fun _ => ((q >>> ((2 : Int32) &&& 31)).toInt8.toInt32)), z17.toInt.toNat) (gv 0)).1 (own_put ((fun _ => ((q >>> ((2 : Int32) &&& 31)).toInt8.toInt32)), z17.toInt.toNat) (gv 0)).2 h42 n0 P.low A_b22 lo_b22 ⟨tr44, by omega⟩ (vb _ (by decide))) (hw _ (List.mem_of_getElem? (i := 16) rfl)) (hw _ (List.mem_of_getElem? (i := 17) rfl)) (hw _ (List.mem_of_getElem? (i := 3) rfl)) (hw _ (List.mem_of_getElem? (i := 18) rfl)) (by decide) pd_2 rfl rfl rfl ⟨by decide, Nat.le_of_ble_eq_true rfl, by decide, by decide⟩ (n := 143) rfl ?_
          rintro T h45 v P ⟨r47, rfl, tr47, A_b22, K46⟩
          replace A_b1 := A_b1.keep K46 (ninS ne_b1_b22 nin0)
          replace A_b18 := A_b18.keep K46 (ninS ne_b18_b22 nin0)
          show Jvm.Own.Ends p e below s room_1 n0 (fun v _ => v = some (.int 1)) T (mkF m 143 #[.val (.int ua), .val (.int ub), .val (.int uc), .val (.int r), .val (.int q), .val (.ref b1), .val (.int z12), .val (.int z16), .val (.int z17), .val (.int ((q >>> ((2 : Int32) &&& 31)).toInt8.toInt32)), .val (.ref b18), .val (.ref b22), .val (.int r44), .unset] [(.int r47)])
          have ur47 := own_put_le ((own_put ((fun _ => ((q >>> ((2 : Int32) &&& 31)).toInt8.toInt32)), z17.toInt.toNat) (gv 0)).1, (own_put ((fun _ => ((q >>> ((2 : Int32) &&& 31)).toInt8.toInt32)), z17.toInt.toNat) (gv 0)).2) (gv 1)
          dsimp only at ur47
          refine istore P at_143 (l' := #[.val (.int ua), .val (.int ub), .val (.int uc), .val (.int r), .val (.int q), .val (.ref b1), .val (.int z12), .val (.int z16), .val (.int z17), .val (.int ((q >>> ((2 : Int32) &&& 31)).toInt8.toInt32)), .val (.ref b18), .val (.ref b22), .val (.int r47), .unset]) rfl (n := 145) rfl ?_
          refine iload P at_145 rfl (n := 147) rfl ?_
          refine iconst P at_147 (x := (2 : Int32)) rfl (n := 148) rfl ?_
          refine icmp_gt P at_148 (n' := 170) (n := 151) (by decide) rfl (fun hc148 => ?_) (fun hc148 => ?_)
          · -- pc 148 taken
            replace hc148 : (2 : Int) < z12.toInt := hc148
            exfalso; omega
          · -- pc 148 not taken
            replace hc148 : z12.toInt ≤ (2 : Int) := hc148
            refine iconst P at_151 (x := (2 : Int32)) rfl (n := 152) rfl ?_
            refine iload P at_152 rfl (n := 154) rfl ?_
            refine icmp_ge P at_154 (n' := 170) (n := 157) (by decide) rfl (fun hc154 => ?_) (fun hc154 => ?_)
            · -- pc 154 taken
              replace hc154 : z16.toInt ≤ (2 : Int) := hc154
              have n1 : (z16.toInt - z12.toInt).toNat = 2 := by omega
              have n2 : z12.toInt.toNat = 0 := by omega
              exact J T _ _ (own_put ((own_put ((fun _ => ((q >>> ((2 : Int32) &&& 31)).toInt8.toInt32)), z17.toInt.toNat) (gv 0)).1, (own_put ((fun _ => ((q >>> ((2 : Int32) &&& 31)).toInt8.toInt32)), z17.toInt.toNat) (gv 0)).2) (gv 1)).1 (own_put ((own_put ((fun _ => ((q >>> ((2 : Int32) &&& 31)).toInt8.toInt32)), z17.toInt.toNat) (gv 0)).1, (own_put ((fun _ => ((q >>> ((2 : Int32) &&& 31)).toInt8.toInt32)), z17.toInt.toNat) (gv 0)).2) (gv 1)).2 P A_b1 A_b18 A_b22 tr47 (by rw [n1, n2]; rfl)
            · -- pc 154 not taken
              replace hc154 : (2 : Int) < z16.toInt := hc154
              refine aload P at_157 rfl rfl (n := 159) rfl ?_
              refine iload P at_159 rfl (n := 161) rfl ?_
              refine aload P at_161 rfl rfl (n := 163) rfl ?_
              refine iconst P at_163 (x := (2 : Int32)) rfl (n := 164) rfl ?_
              refine baloadI P at_164 A_b1 (u := 2) ⟨rfl, by decide⟩ (n := 165) rfl ?_
              refine callS P at_165 (argsL := [(.ref b22), (.int r47), (.int (gv 2))]) (rest := []) (c_put l Z a0 hw b22 r47 (gv 2) (own_put ((own_put ((fun _ => ((q >>> ((2 : Int32) &&& 31)).toInt8.toInt32)), z17.toInt.toNat) (gv 0)).1, (own_put ((fun _ => ((q >>> ((2 : Int32) &&& 31)).toInt8.toInt32)), z17.toInt.toNat) (gv 0)).2) (gv 1)).1 (own_put ((own_put ((fun _ => ((q >>> ((2 : Int32) &&& 31)).toInt8.toInt32)), z17.toInt.toNat) (gv 0)).1, (own_put ((fun _ => ((q >>> ((2 : Int32) &&& 31)).toInt8.toInt32)), z17.toInt.toNat) (gv 0)).2) (gv 1)).2 h45 n0 P.low A_b22 lo_b22 ⟨tr47, by omega⟩ (vb _ (by decide))) (hw _ (List.mem_of_getElem? (i := 16) rfl)) (hw _ (List.mem_of_getElem? (i := 17) rfl)) (hw _ (List.mem_of_getElem? (i := 3) rfl)) (hw _ (List.mem_of_getElem? (i := 18) rfl)) (by decide) pd_2 rfl rfl rfl ⟨by decide, Nat.le_of_ble_eq_true rfl, by decide, by decide⟩ (n := 168) rfl ?_
              rintro T h48 v P ⟨r50, rfl, tr50, A_b22, K49⟩
              replace A_b1 := A_b1.keep K49 (ninS ne_b1_b22 nin0)
              replace A_b18 := A_b18.keep K49 (ninS ne_b18_b22 nin0)
              show Jvm.Own.Ends p e below s room_1 n0 (fun v _ => v = some (.int 1)) T (mkF m 168 #[.val (.int ua), .val (.int ub), .val (.int uc), .val (.int r), .val (.int q), .val (.ref b1), .val (.int z12), .val (.int z16), .val (.int z17), .val (.int ((q >>> ((2 : Int32) &&& 31)).toInt8.toInt32)), .val (.ref b18), .val (.ref b22), .val (.int r47), .unset] [(.int r50)])
              have ur50 := own_put_le ((own_put ((own_put ((fun _ => ((q >>> ((2 : Int32) &&& 31)).toInt8.toInt32)), z17.toInt.toNat) (gv 0)).1, (own_put ((fun _ => ((q >>> ((2 : Int32) &&& 31)).toInt8.toInt32)), z17.toInt.toNat) (gv 0)).2) (gv 1)).1, (own_put ((own_put ((fun _ => ((q >>> ((2 : Int32) &&& 31)).toInt8.toInt32)), z17.toInt.toNat) (gv 0)).1, (own_put ((fun _ => ((q >>> ((2 : Int32) &&& 31)).toInt8.toInt32)), z17.toInt.toNat) (gv 0)).2) (gv 1)).2) (gv 2)
              dsimp only at ur50
              refine istore P at_168 (l' := #[.val (.int ua), .val (.int ub), .val (.int uc), .val (.int r), .val (.int q), .val (.ref b1), .val (.int z12), .val (.int z16), .val (.int z17), .val (.int ((q >>> ((2 : Int32) &&& 31)).toInt8.toInt32)), .val (.ref b18), .val (.ref b22), .val (.int r50), .unset]) rfl (n := 170) rfl ?_
              have n1 : (z16.toInt - z12.toInt).toNat = 3 := by omega
              have n2 : z12.toInt.toNat = 0 := by omega
              exact J T _ _ (own_put ((own_put ((own_put ((fun _ => ((q >>> ((2 : Int32) &&& 31)).toInt8.toInt32)), z17.toInt.toNat) (gv 0)).1, (own_put ((fun _ => ((q >>> ((2 : Int32) &&& 31)).toInt8.toInt32)), z17.toInt.toNat) (gv 0)).2) (gv 1)).1, (own_put ((own_put ((fun _ => ((q >>> ((2 : Int32) &&& 31)).toInt8.toInt32)), z17.toInt.toNat) (gv 0)).1, (own_put ((fun _ => ((q >>> ((2 : Int32) &&& 31)).toInt8.toInt32)), z17.toInt.toNat) (gv 0)).2) (gv 1)).2) (gv 2)).1 (own_put ((own_put ((own_put ((fun _ => ((q >>> ((2 : Int32) &&& 31)).toInt8.toInt32)), z17.toInt.toNat) (gv 0)).1, (own_put ((fun _ => ((q >>> ((2 : Int32) &&& 31)).toInt8.toInt32)), z17.toInt.toNat) (gv 0)).2) (gv 1)).1, (own_put ((own_put ((fun _ => ((q >>> ((2 : Int32) &&& 31)).toInt8.toInt32)), z17.toInt.toNat) (gv 0)).1, (own_put ((fun _ => ((q >>> ((2 : Int32) &&& 31)).toInt8.toInt32)), z17.toInt.toNat) (gv 0)).2) (gv 1)).2) (gv 2)).2 P A_b1 A_b18 A_b22 tr50 (by rw [n1, n2]; rfl)
set_option maxRecDepth 65536 in
set_option maxHeartbeats 40000000 in
theorem comes_1 {Post : Tables → Env → Array Value → State → Outcome → State → Prop} (hpost : ∀ tb e args s v u, (limb_1_1.after args s (.returned v) u = true ∧ limb_1_2.after args s (.returned v) u = true ∧ True) → FrameEnd s (.returned v) u (Jvm.fieldLocs frame_1_writes args s ++ Jvm.arrayLocs frame_1_arrays args s ++ Jvm.staticLocs frame_1_statics s) 16 128 → Post tb e args s (.returned v) u) :
    ArmFor flags0 classFile x code maxLocals ret World_1 tables_1 room_1 Calls_1 rest_1 Pre_1 Post := by
  intro l hfl _ _ p e ha hc hk s m args below hf hA hF happ hP
  obtain ⟨hcalls, hrest, hpre⟩ := hP
  obtain ⟨-, -, -, hnamed, -, -, -, hat⟩ := (Spec.applies_iff hf).mp happ
  obtain ⟨hg, hn⟩ := and_e (Cond.before_iff.mp (show (Jvm.Cond.and given_1 narrow_1).before args s = true from hpre))
  obtain ⟨q0, g0⟩ := and_e hg
  obtain ⟨w0, w1, w2, w3, w4, rfl⟩ : ∃ w0 w1 w2 w3 w4 : Value, args = #[w0, w1, w2, w3, w4] := by
    have hs : args.size = 5 := by simpa [Cond.value, given_1] using q0
    obtain ⟨L⟩ := args
    match L, hs with
    | [w0, w1, w2, w3, w4], _ => exact ⟨w0, w1, w2, w3, w4, rfl⟩
  have hw := fun d (hd : d ∈ tables_1) => atoms_spec (ws := Jvm.Cond.code x code maxLocals ret :: tables_1) hat d (List.mem_cons_of_mem _ hd)
  obtain ⟨q1, g1⟩ := and_e g0
  obtain ⟨i0, e0⟩ := is_v q1
  obtain rfl : w0 = (.int i0) := Option.some.inj e0
  obtain ⟨q2, g2⟩ := and_e g1
  obtain ⟨i1, e1⟩ := is_v q2
  obtain rfl : w1 = (.int i1) := Option.some.inj e1
  obtain ⟨q3, g3⟩ := and_e g2
  obtain ⟨i2, e2⟩ := is_v q3
  obtain rfl : w2 = (.int i2) := Option.some.inj e2
  obtain ⟨q4, g4⟩ := and_e g3
  obtain ⟨i3, e3⟩ := is_v q4
  obtain rfl : w3 = (.int i3) := Option.some.inj e3
  have q5 := g4
  obtain ⟨i4, e4⟩ := is_v q5
  obtain rfl : w4 = (.int i4) := Option.some.inj e4
  obtain ⟨n, o, h1, h2, h3, _, L, rfl, ⟨rfl, N⟩, hq⟩ := rm_law l s _ hw i0 i1 i2 i3 i4 s.heap s.heap.size (Nat.le_refl _)  tables_1 p e ha hc hk s m _ below hf ((Spec.applies_iff_loose hf).mp happ).1 ⟨rfl, State.Warmed39.refl s, rfl⟩ trivial
  refine ⟨n, _, h1, h2, h3, hpost _ _ _ _ _ _ ⟨Cond.after_iff.mpr rfl, Cond.after_iff.mpr (eq_i res_at (Term.int_eval (1)) rfl), trivial⟩ ⟨hq.1, hq.2.1, (hq.2.2.sift fun y hy => Or.inr (N y hy)).mono (by decide) (by decide)⟩⟩
theorem main_1_1 : Claimed_1_1 := comes_1 fun _ _ _ _ _ _ h hF => ⟨h.1, hF⟩
theorem main_1_2 : Claimed_1_2 := comes_1 fun _ _ _ _ _ _ h hF => ⟨h.2.1, hF⟩
end Jvm.Pilot.@@N@@
namespace Jvm.Pilot.@@N@@
open Jvm Jvm.ClassFile Sem Op Lib Jvm.Free Jvm.Stand Jvm.Pilot.@@N@@.Jvm.D
/-! MADE BY PROGRAM (witnessworld.py) out of the Statement's table words and the real class files: 9 classes; the members and pool entries that the words name. The judged class is class 1, her method 1. -/
namespace start1
open Jvm.ClassFile
def u (s : String) : CpInfo := .utf8 (stringToUtf16 s)
/-- a pool by its gaps: so many unusable entries, then the entry; so many at the end -/
def gap : Nat → List CpInfo → List CpInfo
  | 0, r => r
  | n + 1, r => .unusable :: gap n r
def poolList (es : List (Nat × CpInfo)) (last : Nat) : List CpInfo := es.foldr (fun e r => gap e.1 (e.2 :: r)) (gap last [])
def pool (es : List (Nat × CpInfo)) (last : Nat) : Array CpInfo := ⟨poolList es last⟩
def fileOf (pool : Array CpInfo) (this : Nat) (attrs : Array Attribute := #[]) (ms : Array MethodInfo := #[]) (fl : Nat := 33) (sup : Nat := 0) (ifs : Array Nat := #[]) (fds : Array FieldInfo := #[]) : ClassFile where
  minorVersion := 0
  majorVersion := 65
  constantPool := pool
  accessFlags := fl
  thisClass := this
  superClass := sup
  interfaces := ifs
  fields := fds
  methods := ms
  attributes := attrs
def plain (name : String) (sup : Option ClassId) : Class where
  name := name
  kind := .ordinary
  loader := none
  accessFlags := 33
  super := sup
  interfaces := #[]
  cf := none
  fields := #[]
  methods := #[]
  instanceTypes := #[]
  staticTypes := #[]
  resolved := #[]
  callSites := []
  init := .initialized
  statics := none
  mirror := none

def pool0 : Array CpInfo := pool [(5, u "<init>"), (0, u "()V"), (1, .class_ 10), (1, u "java/lang/Object")] 113

def k0m0 : Method := { name := "<init>", desc := "()V", sig := { parameters := [], returnType := none }, accessFlags := 1, code := none }
/-- java/lang/Object -/
def k0 : Class := { plain "java/lang/Object" none with
  accessFlags := 33
  interfaces := #[]
  cf := some (fileOf pool0 8 #[] #[{ accessFlags := 1, nameIndex := 5, descriptorIndex := 6, attributes := #[] }] 33 0 #[] #[])
  fields := #[]
  methods := #[k0m0]
  instanceTypes := #[]
  staticTypes := #[]
  resolved := Array.replicate 124 none
  statics := none }

def pool1 : Array CpInfo := pool [(2, .class_ 4), (1, u "java/lang/Object"), (0, u "<init>"), (0, u "()V"), (0, .methodref 8 9), (0, .class_ 10), (0, .nameAndType 11 12), (0, u "com/example/sessionloom/sessionloom/TabSeparatedEscapePinLaw"), (0, u "draw"), (0, u "(I)B"), (0, .integer 2147483647), (0, .methodref 8 15), (0, .nameAndType 16 17), (0, u "fill"), (0, u "([BB)V"), (0, .methodref 8 19), (0, .nameAndType 20 21), (0, u "put"), (0, u "([BIB)I"), (0, .methodref 23 24), (0, .class_ 25), (0, .nameAndType 26 27), (0, u "com/example/sessionloom/sessionloom/TabSeparated"), (0, u "escape"), (0, u "([BII[BI)I"), (0, .methodref 8 29), (0, .nameAndType 30 31), (0, u "same"), (0, u "([B[B)Z"), (2, u "law"), (0, u "(IIIII)Z")] 5

def k1m0 : Method := { name := "<init>", desc := "()V", sig := { parameters := [], returnType := none }, accessFlags := 2, code := none }
def k1c1 : Code := { maxStack := 5, maxLocals := 14, code := code, exceptionTable := #[], attributes := #[] }
def k1m1 : Method := { name := "law", desc := "(IIIII)Z", sig := { parameters := [.int, .int, .int, .int, .int], returnType := some .boolean }, accessFlags := 9, code := some k1c1 }
def k1c2 : Code := { maxStack := 2, maxLocals := 2, code := method_3_code, exceptionTable := #[], attributes := #[] }
def k1m2 : Method := { name := "draw", desc := "(I)B", sig := { parameters := [.int], returnType := some .byte }, accessFlags := 10, code := some k1c2 }
def k1c3 : Code := { maxStack := 3, maxLocals := 3, code := method_4_code, exceptionTable := #[], attributes := #[] }
def k1m3 : Method := { name := "put", desc := "([BIB)I", sig := { parameters := [(.array .byte), .int, .byte], returnType := some .int }, accessFlags := 10, code := some k1c3 }
def k1c4 : Code := { maxStack := 3, maxLocals := 2, code := method_5_code, exceptionTable := #[], attributes := #[] }
def k1m4 : Method := { name := "fill", desc := "([BB)V", sig := { parameters := [(.array .byte), .byte], returnType := none }, accessFlags := 10, code := some k1c4 }
def k1c5 : Code := { maxStack := 3, maxLocals := 2, code := method_6_code, exceptionTable := #[], attributes := #[] }
def k1m5 : Method := { name := "same", desc := "([B[B)Z", sig := { parameters := [(.array .byte), (.array .byte)], returnType := some .boolean }, accessFlags := 10, code := some k1c5 }
/-- com/example/sessionloom/sessionloom/TabSeparatedEscapePinLaw -/
def k1 : Class := { plain "com/example/sessionloom/sessionloom/TabSeparatedEscapePinLaw" (some 0) with
  accessFlags := 49
  interfaces := #[]
  cf := some (fileOf pool1 8 #[] #[{ accessFlags := 2, nameIndex := 5, descriptorIndex := 6, attributes := #[] }, { accessFlags := 9, nameIndex := 34, descriptorIndex := 35, attributes := #[] }, { accessFlags := 10, nameIndex := 11, descriptorIndex := 12, attributes := #[] }, { accessFlags := 10, nameIndex := 20, descriptorIndex := 21, attributes := #[] }, { accessFlags := 10, nameIndex := 16, descriptorIndex := 17, attributes := #[] }, { accessFlags := 10, nameIndex := 30, descriptorIndex := 31, attributes := #[] }] 49 2 #[] #[])
  fields := #[]
  methods := #[k1m0, k1m1, k1m2, k1m3, k1m4, k1m5]
  instanceTypes := #[]
  staticTypes := #[]
  resolved := Array.replicate 41 none
  statics := none }

def pool2 : Array CpInfo := pool [(2, .class_ 4), (1, u "java/lang/Object"), (0, u "<init>"), (0, u "()V"), (4, .class_ 13), (1, u "com/example/sessionloom/sessionloom/TabSeparated"), (11, u "escape"), (27, u "([BII[BI)I")] 2

def k2m0 : Method := { name := "<init>", desc := "()V", sig := { parameters := [], returnType := none }, accessFlags := 2, code := none }
def k2c1 : Code := { maxStack := 3, maxLocals := 9, code := prog_34_method_5_code, exceptionTable := #[], attributes := #[] }
def k2m1 : Method := { name := "escape", desc := "([BII[BI)I", sig := { parameters := [(.array .byte), .int, .int, (.array .byte), .int], returnType := some .int }, accessFlags := 8, code := some k2c1 }
/-- com/example/sessionloom/sessionloom/TabSeparated -/
def k2 : Class := { plain "com/example/sessionloom/sessionloom/TabSeparated" (some 0) with
  accessFlags := 48
  interfaces := #[]
  cf := some (fileOf pool2 11 #[] #[{ accessFlags := 2, nameIndex := 5, descriptorIndex := 6, attributes := #[] }, { accessFlags := 8, nameIndex := 25, descriptorIndex := 53, attributes := #[] }] 48 2 #[] #[])
  fields := #[]
  methods := #[k2m0, k2m1]
  instanceTypes := #[]
  staticTypes := #[]
  resolved := Array.replicate 56 none
  statics := none }

def pool3 : Array CpInfo := pool [(1, u "java/lang/Cloneable"), (0, .class_ 1), (0, u "java/lang/Object"), (0, .class_ 3)] 3

/-- java/lang/Cloneable -/
def k3 : Class := { plain "java/lang/Cloneable" (some 0) with
  accessFlags := 1537
  interfaces := #[]
  cf := some (fileOf pool3 2 #[] #[] 1537 4 #[] #[])
  fields := #[]
  methods := #[]
  instanceTypes := #[]
  staticTypes := #[]
  resolved := Array.replicate 8 none
  statics := none }

def pool4 : Array CpInfo := pool [(1, u "java/io/Serializable"), (0, .class_ 1), (0, u "java/lang/Object"), (0, .class_ 3)] 3

/-- java/io/Serializable -/
def k4 : Class := { plain "java/io/Serializable" (some 0) with
  accessFlags := 1537
  interfaces := #[]
  cf := some (fileOf pool4 2 #[] #[] 1537 4 #[] #[])
  fields := #[]
  methods := #[]
  instanceTypes := #[]
  staticTypes := #[]
  resolved := Array.replicate 8 none
  statics := none }

/-- the primitive byte -/
def k5 : Class := { plain "byte" none with kind := .primitive 'B', accessFlags := 0x411 }
/-- [B -/
def k6 : Class := { plain "[B" (some 0) with kind := .array 5 .byte, interfaces := #[3, 4], accessFlags := 1041 }

/-- the primitive int -/
def k7 : Class := { plain "int" none with kind := .primitive 'I', accessFlags := 0x411 }
/-- [I -/
def k8 : Class := { plain "[I" (some 0) with kind := .array 7 .int, interfaces := #[3, 4], accessFlags := 1041 }

def heap : Heap := #[]
def classes : Array Class := #[k0, k1, k2, k3, k4, k5, k6, k7, k8]
def interned : List (Array UInt16 × Addr) := []
def slotsUsed : Nat := 0
def theMethod : MethodId := ⟨1, 1⟩
def args0 : Array Value := #[.int 5, .int 5, .int 5, .int 5, .int 5]
def aboutOver (below : List Frame) : State where
  vm := { classes := classes, interned := interned.toArray }
  heap := heap
  slotsUsed := slotsUsed
  threads := #[{ frames := .invoking theMethod args0 :: below }]
def below0 : List Frame := [.native { method := ⟨0, 0⟩, args := #[] }]
def about1 : State := aboutOver below0
def p0 : Program := .bare "" "" ""
def e0 : Env := launch0.env 0 0 0
theorem w_frames : about1.frames = Frame.invoking theMethod args0 :: below0 := rfl
set_option maxRecDepth 65536 in
theorem w_args : argsFit about1.vm theMethod args0 = true := by decide +kernel
set_option maxRecDepth 65536 in
theorem w_heap : heapFits about1 = true := by decide +kernel
set_option maxRecDepth 65536 in
theorem w_runnable : about1.curStatus? = some .runnable := by decide +kernel
set_option maxRecDepth 65536 in
theorem w_alone : about1.alone = true := by decide +kernel
set_option maxRecDepth 65536 in
theorem w_named : about1.methodNamed? x = some theMethod := by decide +kernel
set_option maxRecDepth 65536 in
theorem w_hears : about1.hears theMethod below0 = true := by decide +kernel
set_option maxRecDepth 65536 in
theorem w_ripe : about1.ripe theMethod args0 below0 = true := by decide +kernel
theorem w_running : about1.status = .running := rfl
set_option maxRecDepth 65536 in
theorem w_room : about1.hasRoom e0.platform room_1 = true :=
  launch0.hasRoom_least _ room_1 (by decide +kernel) (by decide +kernel) (by decide +kernel) (by decide +kernel) (by decide +kernel) (by decide +kernel)
theorem allAtoms_all (ts : List Jvm.Cond) (a : Array Jvm.Value) (st : Jvm.State) : (allAtoms ts).before a st = ts.all (fun c => c.before a st) := by
  induction ts with
  | nil => rfl
  | cons c t ih =>
    show (Jvm.Cond.and c (allAtoms t)).before a st = _
    rw [Jvm.Cond.before_and, ih, List.all_cons]
def words1 : List Jvm.Cond := Jvm.Cond.code x code maxLocals ret :: tables_1
/-- a 'code' word, met by the world's own term for the bytes: nothing is compared byte by byte -/
theorem code_word {y : MethodName} {bytes : ByteArray} {mx : Nat} {rt : Option FieldType} {a : Array Value} {s : State} {m : MethodId} {meth : Method} {c : Code} (h1 : s.methodNamed? y = some m) (h2 : s.vm.method? m = some meth) (h3 : meth.code = some c) (h4 : c.code = bytes)
    (h5 : (c.maxLocals == mx && c.exceptionTable.isEmpty && decide (c.maxStack ≤ mostOperands) && decide (meth.sig.returnType = rt) && !meth.locks && decide (parseMethodDescriptor y.desc = some meth.sig)) = true) : (Jvm.Cond.code y bytes mx rt).before a s = true := by
  simp only [Bool.and_eq_true, beq_iff_eq, Bool.not_eq_true', decide_eq_true_eq] at h5
  obtain ⟨⟨⟨⟨⟨g1, g2⟩, g3⟩, g4⟩, g5⟩, g6⟩ := h5
  simp [Cond.before, Cond.holds, Cond.value, h1, h2, h3, h4, g1, g2, g3, g4, g5, g6]
def isCode : Jvm.Cond → Bool
  | .code _ _ _ _ => true
  | _ => false
theorem all_split {L : List Jvm.Cond} {P : Jvm.Cond → Bool} (h1 : L.all (fun c => isCode c || P c) = true) (h2 : ∀ c ∈ L.filter isCode, P c = true) : L.all P = true := by
  refine List.all_eq_true.mpr fun c hc => ?_
  have h := List.all_eq_true.mp h1 c hc
  rcases Bool.eq_false_or_eq_true (isCode c) with hi | hi
  · exact h2 c (List.mem_filter.mpr ⟨hc, hi⟩)
  · simpa [hi] using h
set_option maxRecDepth 65536 in
theorem w_c0 : (Jvm.Cond.code x code maxLocals ret).before args0 about1 = true := code_word (m := ⟨1, 1⟩) (meth := k1m1) (c := k1c1) (by decide +kernel) rfl rfl rfl (by decide +kernel)
set_option maxRecDepth 65536 in
theorem w_c1 : (Jvm.Cond.code ({ cls := "com/example/sessionloom/sessionloom/TabSeparatedEscapePinLaw", name := "draw", desc := "(I)B" } : Jvm.MethodName) method_3_code (2 : Nat) (Option.some Jvm.ClassFile.FieldType.byte)).before args0 about1 = true := code_word (m := ⟨1, 2⟩) (meth := k1m2) (c := k1c2) (by decide +kernel) rfl rfl rfl (by decide +kernel)
set_option maxRecDepth 65536 in
theorem w_c2 : (Jvm.Cond.code ({ cls := "com/example/sessionloom/sessionloom/TabSeparatedEscapePinLaw", name := "fill", desc := "([BB)V" } : Jvm.MethodName) method_5_code (2 : Nat) (Option.none : Option Jvm.ClassFile.FieldType)).before args0 about1 = true := code_word (m := ⟨1, 4⟩) (meth := k1m4) (c := k1c4) (by decide +kernel) rfl rfl rfl (by decide +kernel)
set_option maxRecDepth 65536 in
theorem w_c3 : (Jvm.Cond.code ({ cls := "com/example/sessionloom/sessionloom/TabSeparated", name := "escape", desc := "([BII[BI)I" } : Jvm.MethodName) prog_34_method_5_code (9 : Nat) (Option.some Jvm.ClassFile.FieldType.int)).before args0 about1 = true := code_word (m := ⟨2, 1⟩) (meth := k2m1) (c := k2c1) (by decide +kernel) rfl rfl rfl (by decide +kernel)
set_option maxRecDepth 65536 in
theorem w_c4 : (Jvm.Cond.code ({ cls := "com/example/sessionloom/sessionloom/TabSeparatedEscapePinLaw", name := "same", desc := "([B[B)Z" } : Jvm.MethodName) method_6_code (2 : Nat) (Option.some Jvm.ClassFile.FieldType.boolean)).before args0 about1 = true := code_word (m := ⟨1, 5⟩) (meth := k1m5) (c := k1c5) (by decide +kernel) rfl rfl rfl (by decide +kernel)
set_option maxRecDepth 65536 in
theorem w_c5 : (Jvm.Cond.code ({ cls := "com/example/sessionloom/sessionloom/TabSeparatedEscapePinLaw", name := "put", desc := "([BIB)I" } : Jvm.MethodName) method_4_code (3 : Nat) (Option.some Jvm.ClassFile.FieldType.int)).before args0 about1 = true := code_word (m := ⟨1, 3⟩) (meth := k1m3) (c := k1c3) (by decide +kernel) rfl rfl rfl (by decide +kernel)
def codes1 : List Jvm.Cond := [Jvm.Cond.code x code maxLocals ret, Jvm.Cond.code ({ cls := "com/example/sessionloom/sessionloom/TabSeparatedEscapePinLaw", name := "draw", desc := "(I)B" } : Jvm.MethodName) method_3_code (2 : Nat) (Option.some Jvm.ClassFile.FieldType.byte), Jvm.Cond.code ({ cls := "com/example/sessionloom/sessionloom/TabSeparatedEscapePinLaw", name := "fill", desc := "([BB)V" } : Jvm.MethodName) method_5_code (2 : Nat) (Option.none : Option Jvm.ClassFile.FieldType), Jvm.Cond.code ({ cls := "com/example/sessionloom/sessionloom/TabSeparated", name := "escape", desc := "([BII[BI)I" } : Jvm.MethodName) prog_34_method_5_code (9 : Nat) (Option.some Jvm.ClassFile.FieldType.int), Jvm.Cond.code ({ cls := "com/example/sessionloom/sessionloom/TabSeparatedEscapePinLaw", name := "same", desc := "([B[B)Z" } : Jvm.MethodName) method_6_code (2 : Nat) (Option.some Jvm.ClassFile.FieldType.boolean), Jvm.Cond.code ({ cls := "com/example/sessionloom/sessionloom/TabSeparatedEscapePinLaw", name := "put", desc := "([BIB)I" } : Jvm.MethodName) method_4_code (3 : Nat) (Option.some Jvm.ClassFile.FieldType.int)]
set_option maxRecDepth 65536 in
theorem codes_eq : words1.filter isCode = codes1 := rfl
theorem w_codes : ∀ c ∈ words1.filter isCode, c.before args0 about1 = true := by
  rw [codes_eq]
  intro c hc
  simp only [codes1, List.mem_cons, List.not_mem_nil, or_false] at hc
  rcases hc with rfl | rfl | rfl | rfl | rfl | rfl
  · exact w_c0
  · exact w_c1
  · exact w_c2
  · exact w_c3
  · exact w_c4
  · exact w_c5
set_option maxRecDepth 65536 in
theorem w_t1 : words1.all (fun c => isCode c || c.before args0 about1) = true := by decide +kernel
theorem w_tables : (allAtoms (Jvm.Cond.code x code maxLocals ret :: tables_1)).before args0 about1 = true := by
  rw [allAtoms_all]
  show words1.all (fun c => c.before args0 about1) = true
  refine all_split ?_ w_codes
  rw [w_t1]
set_option maxRecDepth 65536 in
theorem w_case : (Jvm.Cond.and given_1 narrow_1).before args0 about1 = true := by decide +kernel
theorem w_applies : (headSpec (Jvm.Cond.code x code maxLocals ret :: tables_1) room_1).applies x e0.platform about1 = true :=
  (Spec.applies_iff w_frames).mpr ⟨w_running, w_runnable, w_alone, w_named, w_hears, w_ripe, w_room, w_tables⟩
theorem atStart : AtStart classFile x code maxLocals ret World_1 tables_1 room_1 Calls_1 rest_1 Pre_1 launch0 p0 e0 about1 theMethod args0 below0 :=
  ⟨lists_1, trivial, launch0.admits_env _ _ _, launch0.least_env, fairChoices_fair.cas, fairChoices_fair.clock, w_frames, w_args, w_heap, w_applies, trivial, trivial, w_case⟩
end start1
theorem witness_1 : WitnessClaimed_1 := ⟨start1.p0, start1.e0, start1.about1, start1.theMethod, start1.args0, start1.below0, start1.atStart⟩
end Jvm.Pilot.@@N@@
