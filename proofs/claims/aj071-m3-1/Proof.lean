import JvmDerived
import JvmDerived.Pilot.@@N@@Statement
import JvmDerived.Pilot.@@N@@Code
set_option linter.unusedVariables false
set_option linter.unusedSimpArgs false
namespace Jvm.Own
open Jvm Jvm.ClassFile Sem Op Lib Jvm.Free Jvm.Stand Jvm.LawKit Jvm.RoadKit
section Core
variable {p : Program} {l : Launch} {e : Env} {R : Room} {s : State} {m : MethodId} {args : Array Value} {below : List Frame} {meth : Method} {c : Code} {Z : State} {own nm : String} {bytes : ByteArray} {maxL : Nat} {ret : Option FieldType} {n0 : Nat} {a0 : Array Value}
  {T T' : State} {h h' : Heap} {cells slots : Nat} {Q : Option Value → Heap → Prop} {Ls : Array Slot} {st : List Value} {pc n : Nat}
/-- where a walk stands: the state T, its heap h, the cells and slots made so far; nothing below n0 written -/
def Pos (p : Program) (l : Launch) (e : Env) (R : Room) (s : State) (m : MethodId) (args : Array Value) (below : List Frame) (meth : Method) (c : Code) (Z : State) (own nm : String) (bytes : ByteArray) (maxL : Nat) (ret : Option FieldType) (n0 : Nat) (T : State) (h : Heap) (cells slots : Nat) : Prop :=
  (∃ locs, Stand p l e R s m args below meth c T locs cells slots ∧ Fr n0 locs) ∧ T.heap = h ∧ p.tables.exec = Jvm.exec ∧ c.code = bytes ∧ c.maxLocals = maxL ∧ s.vm.findClass own = some m.cls ∧ Z.Warmed39 s.vm ∧ meth.sig.returnType = ret ∧ meth.name = nm ∧ meth.locks = false ∧ n0 ≤ s.heap.size
/-- from the frame g the method comes to its end as Q says -/
def Ends (p : Program) (e : Env) (below : List Frame) (s : State) (R : Room) (n0 : Nat) (Q : Option Value → Heap → Prop) (T : State) (g : JFrame) : Prop :=
  ∃ s₂ o, Steps p.tables e below (T.setTop g) s₂ ∧ s₂.status = .running ∧ Ended s₂ below o ∧ ∃ v L, o = .returned v ∧ (Q v s₂.heap ∧ Fr n0 L) ∧ FrameEnd s o s₂ L R.cells R.slots
/-- a method's contract at given arguments and a given heap -/
def Meth (l : Launch) (Z : State) (y : MethodName) (bytes : ByteArray) (maxL : Nat) (ret : Option FieldType) (rm : Room) (as : Array Value) (h : Heap) (n0 : Nat) (Q : Option Value → Heap → Prop) : Prop :=
  ∀ ws : List Cond, MetFree l y (head1 (Cond.code y bytes maxL ret :: ws) rm) (fun a U => a = as ∧ Z.Warmed39 U.vm ∧ U.heap = h) (fun _ _ _ _ _ => True) (fun _ U o U' => ∃ v L, o = .returned v ∧ (Q v U'.heap ∧ Fr n0 L) ∧ FrameEnd U o U' L rm.cells rm.slots)
theorem Pos.stand (P : Pos p l e R s m args below meth c Z own nm bytes maxL ret n0 T h cells slots) : ∃ locs, Stand p l e R s m args below meth c T locs cells slots ∧ Fr n0 locs := P.1
theorem Pos.heap (P : Pos p l e R s m args below meth c Z own nm bytes maxL ret n0 T h cells slots) : T.heap = h := P.2.1
theorem Pos.hx (P : Pos p l e R s m args below meth c Z own nm bytes maxL ret n0 T h cells slots) : p.tables.exec = Jvm.exec := P.2.2.1
theorem Pos.code (P : Pos p l e R s m args below meth c Z own nm bytes maxL ret n0 T h cells slots) : c.code = bytes := P.2.2.2.1
theorem Pos.maxl (P : Pos p l e R s m args below meth c Z own nm bytes maxL ret n0 T h cells slots) : c.maxLocals = maxL := P.2.2.2.2.1
theorem Pos.own' (P : Pos p l e R s m args below meth c Z own nm bytes maxL ret n0 T h cells slots) : s.vm.findClass own = some m.cls := P.2.2.2.2.2.1
theorem Pos.hZ (P : Pos p l e R s m args below meth c Z own nm bytes maxL ret n0 T h cells slots) : Z.Warmed39 s.vm := P.2.2.2.2.2.2.1
theorem Pos.rets (P : Pos p l e R s m args below meth c Z own nm bytes maxL ret n0 T h cells slots) : meth.sig.returnType = ret := P.2.2.2.2.2.2.2.1
theorem Pos.name (P : Pos p l e R s m args below meth c Z own nm bytes maxL ret n0 T h cells slots) : meth.name = nm := P.2.2.2.2.2.2.2.2.1
theorem Pos.locks (P : Pos p l e R s m args below meth c Z own nm bytes maxL ret n0 T h cells slots) : meth.locks = false := P.2.2.2.2.2.2.2.2.2.1
theorem Pos.low0 (P : Pos p l e R s m args below meth c Z own nm bytes maxL ret n0 T h cells slots) : n0 ≤ s.heap.size := P.2.2.2.2.2.2.2.2.2.2
theorem Pos.low (P : Pos p l e R s m args below meth c Z own nm bytes maxL ret n0 T h cells slots) : n0 ≤ h.size := by
  obtain ⟨_, X, -⟩ := P.stand; rw [← P.heap]; exact Nat.le_trans P.low0 X.same.2.1
theorem Pos.here (P : Pos p l e R s m args below meth c Z own nm bytes maxL ret n0 T h cells slots) : At T m c below := by obtain ⟨_, X, -⟩ := P.stand; exact X.here
/-- on to another state of the same walk -/
theorem Pos.to (P : Pos p l e R s m args below meth c Z own nm bytes maxL ret n0 T h cells slots) {cells' slots' : Nat} {locs : List Loc} (X : Stand p l e R s m args below meth c T' locs cells' slots') (N : Fr n0 locs) (e' : T'.heap = h') : Pos p l e R s m args below meth c Z own nm bytes maxL ret n0 T' h' cells' slots' :=
  ⟨⟨_, X, N⟩, e', P.2.2.1, P.2.2.2.1, P.2.2.2.2.1, P.2.2.2.2.2.1, P.2.2.2.2.2.2.1, P.2.2.2.2.2.2.2.1, P.2.2.2.2.2.2.2.2.1, P.2.2.2.2.2.2.2.2.2.1, P.low0⟩
theorem Ends.via {g g' : JFrame} (E : Ends p e below s R n0 Q T' g') (k : ∀ t, Steps p.tables e below (T'.setTop g') t → Steps p.tables e below (T.setTop g) t) : Ends p e below s R n0 Q T g := by
  obtain ⟨s₂, o, h1, h2⟩ := E; exact ⟨s₂, o, k _ h1, h2⟩
theorem Ends.cast {g g' : JFrame} (q : g = g') (E : Ends p e below s R n0 Q T g') : Ends p e below s R n0 Q T g := q ▸ E
/-- a value by a name -/
theorem nameI {α : Type} {x : α} {F : α → Prop} (k : ∀ z, z = x → F z) : F x := k x rfl
theorem Meth.of {y : MethodName} {rm : Room} {as : Array Value} (hcls : plainFor y = true) (hlow : n0 ≤ h.size)
    (body : ∀ p e s m args below meth c T, Pos p l e rm s m args below meth c Z y.cls y.name bytes maxL ret n0 T h 0 0 → Ends p e below s rm n0 Q T (entryFrame m as maxL)) : Meth l Z y bytes maxL ret rm as h n0 Q := by
  intro ws
  refine MetFree.of_bodySF hcls hisR ?_
  intro p e s m args below meth c s₁ Bd hml0 hP hK
  obtain ⟨rfl, hZ, hh⟩ := hP
  have hown : s.vm.findClass y.cls = some m.cls := findClass_of_methodNamed Bd.named
  have hnm := (name_of_methodNamed Bd.named Bd.method).1
  have X0 : Stand p l e rm s m args below meth c s₁ [] 0 0 := Stand.of_body Bd
  have e0 : s₁.heap = h := by rw [← hh, Bd.state]; rfl
  exact body p e s m args below meth c s₁ ⟨⟨[], X0, Fr.nil n0⟩, e0, Bd.exec, Bd.bytes, hml0, hown, hZ, Bd.returns, hnm, Bd.notSynchronized, hh ▸ hlow⟩
/-! returns -/
theorem retV (P : Pos p l e R s m args below meth c Z own nm bytes maxL none n0 T h cells slots) (hd : decode bytes pc = .ok (.return_, 1)) (hc : cells ≤ R.cells) (hs : slots ≤ R.slots) (q : Q none h) : Ends p e below s R n0 Q T (mkF m pc Ls []) := by
  obtain ⟨locs, X, N⟩ := P.stand
  obtain ⟨fs, hr, hrun, hended, hW, hsame⟩ := X.leave (v := none) (fun _ => rfl) P.locks
  refine ⟨_, _, X.returnOut P.hx P.rets (hb P.code hd) hr, hrun, hended, _, _, rfl, ⟨?_, N⟩, ⟨_, rfl⟩, hW, hsame.mono hc hs⟩
  show Q none T.heap
  rw [P.heap]; exact q
theorem retA {w : Value} {t : FieldType} {i : Instr} (P : Pos p l e R s m args below meth c Z own nm bytes maxL (some t) n0 T h cells slots) (hd : decode bytes pc = .ok (i, 1)) (hn : narrow t w = w)
    (hi : (i = .ireturn ∧ (t = .int ∨ t = .boolean ∨ t = .byte ∨ t = .char ∨ t = .short) ∧ ∃ z, w = .int z) ∨ (i = .lreturn ∧ t = .long ∧ ∃ z, w = .long z) ∨ (i = .dreturn ∧ t = .double ∧ ∃ z, w = .double z) ∨ (i = .freturn ∧ t = .float ∧ ∃ z, w = .float z) ∨ (i = .areturn ∧ t.isReference = true ∧ w.isRef = true))
    (hc : cells ≤ R.cells) (hs : slots ≤ R.slots) (q : Q (some w) h) : Ends p e below s R n0 Q T (mkF m pc Ls (w :: st)) := by
  obtain ⟨locs, X, N⟩ := P.stand
  obtain ⟨fs, hr, hrun, hended, hW, hsame⟩ := X.leave (v := some w) (fun h => by rw [P.rets] at h; cases h) P.locks
  refine ⟨_, _, retOut X P.hx P.rets hn hi (hb P.code hd) hr, hrun, hended, _, _, rfl, ⟨?_, N⟩, ⟨_, rfl⟩, hW, hsame.mono hc hs⟩
  show Q (some w) T.heap
  rw [P.heap]; exact q
theorem retI {x : Int32} (P : Pos p l e R s m args below meth c Z own nm bytes maxL (some .int) n0 T h cells slots) (hd : decode bytes pc = .ok (.ireturn, 1)) (hc : cells ≤ R.cells) (hs : slots ≤ R.slots) (q : Q (some (.int x)) h) : Ends p e below s R n0 Q T (mkF m pc Ls (.int x :: st)) :=
  retA P hd rfl (Or.inl ⟨rfl, Or.inl rfl, _, rfl⟩) hc hs q
theorem retL {x : Int64} (P : Pos p l e R s m args below meth c Z own nm bytes maxL (some .long) n0 T h cells slots) (hd : decode bytes pc = .ok (.lreturn, 1)) (hc : cells ≤ R.cells) (hs : slots ≤ R.slots) (q : Q (some (.long x)) h) : Ends p e below s R n0 Q T (mkF m pc Ls (.long x :: st)) :=
  retA P hd rfl (Or.inr (Or.inl ⟨rfl, rfl, _, rfl⟩)) hc hs q
theorem retR {w : Value} {C : String} (P : Pos p l e R s m args below meth c Z own nm bytes maxL (some (.object C)) n0 T h cells slots) (hd : decode bytes pc = .ok (.areturn, 1)) (hw : w.isRef = true) (hc : cells ≤ R.cells) (hs : slots ≤ R.slots) (q : Q (some w) h) : Ends p e below s R n0 Q T (mkF m pc Ls (w :: st)) := by
  refine retA P hd ?_ (Or.inr (Or.inr (Or.inr (Or.inr ⟨rfl, rfl, hw⟩)))) hc hs q
  rcases ref_cases hw with rfl | ⟨z, rfl⟩ <;> rfl
/-- a boolean's return narrows to the last bit -/
theorem retZ {x : Int32} (P : Pos p l e R s m args below meth c Z own nm bytes maxL (some .boolean) n0 T h cells slots) (hd : decode bytes pc = .ok (.ireturn, 1)) (hx : x = 0 ∨ x = 1) (hc : cells ≤ R.cells) (hs : slots ≤ R.slots) (q : Q (some (.int x)) h) : Ends p e below s R n0 Q T (mkF m pc Ls (.int x :: st)) := by
  refine retA P hd ?_ (Or.inl ⟨rfl, Or.inr (Or.inl rfl), _, rfl⟩) hc hs q
  rcases hx with rfl | rfl <;> rfl
theorem retB {x : Int32} (P : Pos p l e R s m args below meth c Z own nm bytes maxL (some .byte) n0 T h cells slots) (hd : decode bytes pc = .ok (.ireturn, 1)) (hx : x.toInt8.toInt32 = x) (hc : cells ≤ R.cells) (hs : slots ≤ R.slots) (q : Q (some (.int x)) h) : Ends p e below s R n0 Q T (mkF m pc Ls (.int x :: st)) :=
  retA P hd (by show Value.int x.toInt8.toInt32 = Value.int x; rw [hx]) (Or.inl ⟨rfl, Or.inr (Or.inr (Or.inl rfl)), _, rfl⟩) hc hs q
theorem iloadN (P : Pos p l e R s m args below meth c Z own nm bytes maxL ret n0 T h cells slots) {j : Fin 4} {v : Int32} (hd : decode bytes pc = .ok (.iload_n j, 1)) (hl : Ls[j.val]? = some (.val (.int v))) (hn : n = pc + 1)
    (E : Ends p e below s R n0 Q T (mkF m n Ls (.int v :: st))) : Ends p e below s R n0 Q T (mkF m pc Ls st) := by
  subst hn; exact E.via fun t k => XS.iloadN P.here P.hx rfl (hb P.code hd) hl k
theorem iload (P : Pos p l e R s m args below meth c Z own nm bytes maxL ret n0 T h cells slots) {j : Nat} {v : Int32} (hd : decode bytes pc = .ok (.iload j, 2)) (hl : Ls[j]? = some (.val (.int v))) (hn : n = pc + 2)
    (E : Ends p e below s R n0 Q T (mkF m n Ls (.int v :: st))) : Ends p e below s R n0 Q T (mkF m pc Ls st) := by
  subst hn; exact E.via fun t k => XS.iload P.here P.hx rfl (hb P.code hd) hl k
theorem istoreN (P : Pos p l e R s m args below meth c Z own nm bytes maxL ret n0 T h cells slots) {j : Fin 4} {v : Int32} {l' : Array Slot} (hd : decode bytes pc = .ok (.istore_n j, 1)) (hl : storeLocals Ls j.val (.int v) = some l') (hn : n = pc + 1)
    (E : Ends p e below s R n0 Q T (mkF m n l' st)) : Ends p e below s R n0 Q T (mkF m pc Ls (.int v :: st)) := by
  subst hn; exact E.via fun t k => XS.istoreN P.here P.hx rfl (hb P.code hd) rfl hl k
theorem istore (P : Pos p l e R s m args below meth c Z own nm bytes maxL ret n0 T h cells slots) {j : Nat} {v : Int32} {l' : Array Slot} (hd : decode bytes pc = .ok (.istore j, 2)) (hl : storeLocals Ls j (.int v) = some l') (hn : n = pc + 2)
    (E : Ends p e below s R n0 Q T (mkF m n l' st)) : Ends p e below s R n0 Q T (mkF m pc Ls (.int v :: st)) := by
  subst hn; exact E.via fun t k => XS.istore P.here P.hx rfl (hb P.code hd) rfl hl k
theorem lloadN (P : Pos p l e R s m args below meth c Z own nm bytes maxL ret n0 T h cells slots) {j : Fin 4} {v : Int64} (hd : decode bytes pc = .ok (.lload_n j, 1)) (hl : Ls[j.val]? = some (.val (.long v))) (hn : n = pc + 1)
    (E : Ends p e below s R n0 Q T (mkF m n Ls (.long v :: st))) : Ends p e below s R n0 Q T (mkF m pc Ls st) := by
  subst hn; exact E.via fun t k => XS.lloadN P.here P.hx rfl (hb P.code hd) hl k
theorem lload (P : Pos p l e R s m args below meth c Z own nm bytes maxL ret n0 T h cells slots) {j : Nat} {v : Int64} (hd : decode bytes pc = .ok (.lload j, 2)) (hl : Ls[j]? = some (.val (.long v))) (hn : n = pc + 2)
    (E : Ends p e below s R n0 Q T (mkF m n Ls (.long v :: st))) : Ends p e below s R n0 Q T (mkF m pc Ls st) := by
  subst hn; exact E.via fun t k => XS.lload P.here P.hx rfl (hb P.code hd) hl k
theorem lstoreN (P : Pos p l e R s m args below meth c Z own nm bytes maxL ret n0 T h cells slots) {j : Fin 4} {v : Int64} {l' : Array Slot} (hd : decode bytes pc = .ok (.lstore_n j, 1)) (hl : storeLocals Ls j.val (.long v) = some l') (hn : n = pc + 1)
    (E : Ends p e below s R n0 Q T (mkF m n l' st)) : Ends p e below s R n0 Q T (mkF m pc Ls (.long v :: st)) := by
  subst hn; exact E.via fun t k => XS.lstoreN P.here P.hx rfl (hb P.code hd) rfl hl k
theorem lstore (P : Pos p l e R s m args below meth c Z own nm bytes maxL ret n0 T h cells slots) {j : Nat} {v : Int64} {l' : Array Slot} (hd : decode bytes pc = .ok (.lstore j, 2)) (hl : storeLocals Ls j (.long v) = some l') (hn : n = pc + 2)
    (E : Ends p e below s R n0 Q T (mkF m n l' st)) : Ends p e below s R n0 Q T (mkF m pc Ls (.long v :: st)) := by
  subst hn; exact E.via fun t k => XS.lstore P.here P.hx rfl (hb P.code hd) rfl hl k
theorem aloadN (P : Pos p l e R s m args below meth c Z own nm bytes maxL ret n0 T h cells slots) {j : Fin 4} {v : Value} (hd : decode bytes pc = .ok (.aload_n j, 1)) (hl : Ls[j.val]? = some (.val v)) (hv : v.isRef = true) (hn : n = pc + 1)
    (E : Ends p e below s R n0 Q T (mkF m n Ls (v :: st))) : Ends p e below s R n0 Q T (mkF m pc Ls st) := by
  subst hn; exact E.via fun t k => XS.aloadN P.here P.hx rfl (hb P.code hd) hl hv k
theorem aload (P : Pos p l e R s m args below meth c Z own nm bytes maxL ret n0 T h cells slots) {j : Nat} {v : Value} (hd : decode bytes pc = .ok (.aload j, 2)) (hl : Ls[j]? = some (.val v)) (hv : v.isRef = true) (hn : n = pc + 2)
    (E : Ends p e below s R n0 Q T (mkF m n Ls (v :: st))) : Ends p e below s R n0 Q T (mkF m pc Ls st) := by
  subst hn; exact E.via fun t k => XS.aload P.here P.hx rfl (hb P.code hd) hl hv k
theorem astoreN (P : Pos p l e R s m args below meth c Z own nm bytes maxL ret n0 T h cells slots) {j : Fin 4} {v : Value} {l' : Array Slot} (hd : decode bytes pc = .ok (.astore_n j, 1)) (hv : v.isRef = true) (hl : storeLocals Ls j.val v = some l') (hn : n = pc + 1)
    (E : Ends p e below s R n0 Q T (mkF m n l' st)) : Ends p e below s R n0 Q T (mkF m pc Ls (v :: st)) := by
  subst hn; exact E.via fun t k => XS.astoreN P.here P.hx rfl (hb P.code hd) rfl hv hl k
theorem astore (P : Pos p l e R s m args below meth c Z own nm bytes maxL ret n0 T h cells slots) {j : Nat} {v : Value} {l' : Array Slot} (hd : decode bytes pc = .ok (.astore j, 2)) (hv : v.isRef = true) (hl : storeLocals Ls j v = some l') (hn : n = pc + 2)
    (E : Ends p e below s R n0 Q T (mkF m n l' st)) : Ends p e below s R n0 Q T (mkF m pc Ls (v :: st)) := by
  subst hn; exact E.via fun t k => XS.astore P.here P.hx rfl (hb P.code hd) rfl hv hl k
theorem iconst (P : Pos p l e R s m args below meth c Z own nm bytes maxL ret n0 T h cells slots) {i : Int} (hd : decode bytes pc = .ok (.iconst i, 1)) {x : Int32} (hx : x = Int32.ofInt i) (hn : n = pc + 1)
    (E : Ends p e below s R n0 Q T (mkF m n Ls (.int x :: st))) : Ends p e below s R n0 Q T (mkF m pc Ls st) := by
  subst hn; exact E.via fun t k => XS.iconst P.here P.hx rfl (hb P.code hd) (by subst hx; exact k)
theorem bipush (P : Pos p l e R s m args below meth c Z own nm bytes maxL ret n0 T h cells slots) {i : Int} (hd : decode bytes pc = .ok (.bipush i, 2)) {x : Int32} (hx : x = (Int8.ofInt i).toInt32) (hn : n = pc + 2)
    (E : Ends p e below s R n0 Q T (mkF m n Ls (.int x :: st))) : Ends p e below s R n0 Q T (mkF m pc Ls st) := by
  subst hn; exact E.via fun t k => XS.bipush P.here P.hx rfl (hb P.code hd) (by subst hx; exact k)
theorem sipush (P : Pos p l e R s m args below meth c Z own nm bytes maxL ret n0 T h cells slots) {i : Int} (hd : decode bytes pc = .ok (.sipush i, 3)) {x : Int32} (hx : x = (Int16.ofInt i).toInt32) (hn : n = pc + 3)
    (E : Ends p e below s R n0 Q T (mkF m n Ls (.int x :: st))) : Ends p e below s R n0 Q T (mkF m pc Ls st) := by
  subst hn; exact E.via fun t k => XS.sipush P.here P.hx rfl (hb P.code hd) (by subst hx; exact k)
theorem lconst (P : Pos p l e R s m args below meth c Z own nm bytes maxL ret n0 T h cells slots) {i : Fin 2} (hd : decode bytes pc = .ok (.lconst i, 1)) {x : Int64} (hx : x = Int64.ofNat i) (hn : n = pc + 1)
    (E : Ends p e below s R n0 Q T (mkF m n Ls (.long x :: st))) : Ends p e below s R n0 Q T (mkF m pc Ls st) := by
  subst hn; exact E.via fun t k => XS.lconst P.here P.hx rfl (hb P.code hd) (by subst hx; exact k)
theorem aconstNull (P : Pos p l e R s m args below meth c Z own nm bytes maxL ret n0 T h cells slots) (hd : decode bytes pc = .ok (.aconst_null, 1)) (hn : n = pc + 1)
    (E : Ends p e below s R n0 Q T (mkF m n Ls (.null :: st))) : Ends p e below s R n0 Q T (mkF m pc Ls st) := by
  subst hn; exact E.via fun t k => XS.aconstNull P.here P.hx rfl (hb P.code hd) k
theorem iadd (P : Pos p l e R s m args below meth c Z own nm bytes maxL ret n0 T h cells slots) {x y : Int32} (hd : decode bytes pc = .ok (.iadd, 1)) (hn : n = pc + 1)
    (E : Ends p e below s R n0 Q T (mkF m n Ls (.int (x + y) :: st))) : Ends p e below s R n0 Q T (mkF m pc Ls (.int y :: .int x :: st)) := by
  subst hn; exact E.via fun t k => XS.iadd P.here P.hx rfl (hb P.code hd) rfl k
theorem isub (P : Pos p l e R s m args below meth c Z own nm bytes maxL ret n0 T h cells slots) {x y : Int32} (hd : decode bytes pc = .ok (.isub, 1)) (hn : n = pc + 1)
    (E : Ends p e below s R n0 Q T (mkF m n Ls (.int (x - y) :: st))) : Ends p e below s R n0 Q T (mkF m pc Ls (.int y :: .int x :: st)) := by
  subst hn; exact E.via fun t k => XS.isub P.here P.hx rfl (hb P.code hd) rfl k
theorem imul (P : Pos p l e R s m args below meth c Z own nm bytes maxL ret n0 T h cells slots) {x y : Int32} (hd : decode bytes pc = .ok (.imul, 1)) (hn : n = pc + 1)
    (E : Ends p e below s R n0 Q T (mkF m n Ls (.int (x * y) :: st))) : Ends p e below s R n0 Q T (mkF m pc Ls (.int y :: .int x :: st)) := by
  subst hn; exact E.via fun t k => XS.imul P.here P.hx rfl (hb P.code hd) rfl k
theorem iand (P : Pos p l e R s m args below meth c Z own nm bytes maxL ret n0 T h cells slots) {x y : Int32} (hd : decode bytes pc = .ok (.iand, 1)) (hn : n = pc + 1)
    (E : Ends p e below s R n0 Q T (mkF m n Ls (.int (x &&& y) :: st))) : Ends p e below s R n0 Q T (mkF m pc Ls (.int y :: .int x :: st)) := by
  subst hn; exact E.via fun t k => XS.iand P.here P.hx rfl (hb P.code hd) rfl k
theorem ior (P : Pos p l e R s m args below meth c Z own nm bytes maxL ret n0 T h cells slots) {x y : Int32} (hd : decode bytes pc = .ok (.ior, 1)) (hn : n = pc + 1)
    (E : Ends p e below s R n0 Q T (mkF m n Ls (.int (x ||| y) :: st))) : Ends p e below s R n0 Q T (mkF m pc Ls (.int y :: .int x :: st)) := by
  subst hn; exact E.via fun t k => XS.ior P.here P.hx rfl (hb P.code hd) rfl k
theorem ixor (P : Pos p l e R s m args below meth c Z own nm bytes maxL ret n0 T h cells slots) {x y : Int32} (hd : decode bytes pc = .ok (.ixor, 1)) (hn : n = pc + 1)
    (E : Ends p e below s R n0 Q T (mkF m n Ls (.int (x ^^^ y) :: st))) : Ends p e below s R n0 Q T (mkF m pc Ls (.int y :: .int x :: st)) := by
  subst hn; exact E.via fun t k => XS.ixor P.here P.hx rfl (hb P.code hd) rfl k
theorem ladd (P : Pos p l e R s m args below meth c Z own nm bytes maxL ret n0 T h cells slots) {x y : Int64} (hd : decode bytes pc = .ok (.ladd, 1)) (hn : n = pc + 1)
    (E : Ends p e below s R n0 Q T (mkF m n Ls (.long (x + y) :: st))) : Ends p e below s R n0 Q T (mkF m pc Ls (.long y :: .long x :: st)) := by
  subst hn; exact E.via fun t k => XS.ladd P.here P.hx rfl (hb P.code hd) rfl k
theorem lsub (P : Pos p l e R s m args below meth c Z own nm bytes maxL ret n0 T h cells slots) {x y : Int64} (hd : decode bytes pc = .ok (.lsub, 1)) (hn : n = pc + 1)
    (E : Ends p e below s R n0 Q T (mkF m n Ls (.long (x - y) :: st))) : Ends p e below s R n0 Q T (mkF m pc Ls (.long y :: .long x :: st)) := by
  subst hn; exact E.via fun t k => XS.lsub P.here P.hx rfl (hb P.code hd) rfl k
theorem lmul (P : Pos p l e R s m args below meth c Z own nm bytes maxL ret n0 T h cells slots) {x y : Int64} (hd : decode bytes pc = .ok (.lmul, 1)) (hn : n = pc + 1)
    (E : Ends p e below s R n0 Q T (mkF m n Ls (.long (x * y) :: st))) : Ends p e below s R n0 Q T (mkF m pc Ls (.long y :: .long x :: st)) := by
  subst hn; exact E.via fun t k => XS.lmul P.here P.hx rfl (hb P.code hd) rfl k
theorem land (P : Pos p l e R s m args below meth c Z own nm bytes maxL ret n0 T h cells slots) {x y : Int64} (hd : decode bytes pc = .ok (.land, 1)) (hn : n = pc + 1)
    (E : Ends p e below s R n0 Q T (mkF m n Ls (.long (x &&& y) :: st))) : Ends p e below s R n0 Q T (mkF m pc Ls (.long y :: .long x :: st)) := by
  subst hn; exact E.via fun t k => XS.land P.here P.hx rfl (hb P.code hd) rfl k
theorem lor (P : Pos p l e R s m args below meth c Z own nm bytes maxL ret n0 T h cells slots) {x y : Int64} (hd : decode bytes pc = .ok (.lor, 1)) (hn : n = pc + 1)
    (E : Ends p e below s R n0 Q T (mkF m n Ls (.long (x ||| y) :: st))) : Ends p e below s R n0 Q T (mkF m pc Ls (.long y :: .long x :: st)) := by
  subst hn; exact E.via fun t k => XS.lor P.here P.hx rfl (hb P.code hd) rfl k
theorem lxor (P : Pos p l e R s m args below meth c Z own nm bytes maxL ret n0 T h cells slots) {x y : Int64} (hd : decode bytes pc = .ok (.lxor, 1)) (hn : n = pc + 1)
    (E : Ends p e below s R n0 Q T (mkF m n Ls (.long (x ^^^ y) :: st))) : Ends p e below s R n0 Q T (mkF m pc Ls (.long y :: .long x :: st)) := by
  subst hn; exact E.via fun t k => XS.lxor P.here P.hx rfl (hb P.code hd) rfl k
theorem ishl (P : Pos p l e R s m args below meth c Z own nm bytes maxL ret n0 T h cells slots) {x y : Int32} (hd : decode bytes pc = .ok (.ishl, 1)) (hn : n = pc + 1)
    (E : Ends p e below s R n0 Q T (mkF m n Ls (.int (x <<< (y &&& 31)) :: st))) : Ends p e below s R n0 Q T (mkF m pc Ls (.int y :: .int x :: st)) := by
  subst hn; exact E.via fun t k => XS.ishl P.here P.hx rfl (hb P.code hd) rfl k
theorem ishr (P : Pos p l e R s m args below meth c Z own nm bytes maxL ret n0 T h cells slots) {x y : Int32} (hd : decode bytes pc = .ok (.ishr, 1)) (hn : n = pc + 1)
    (E : Ends p e below s R n0 Q T (mkF m n Ls (.int (x >>> (y &&& 31)) :: st))) : Ends p e below s R n0 Q T (mkF m pc Ls (.int y :: .int x :: st)) := by
  subst hn; exact E.via fun t k => XS.ishr P.here P.hx rfl (hb P.code hd) rfl k
theorem iushr (P : Pos p l e R s m args below meth c Z own nm bytes maxL ret n0 T h cells slots) {x y : Int32} (hd : decode bytes pc = .ok (.iushr, 1)) (hn : n = pc + 1)
    (E : Ends p e below s R n0 Q T (mkF m n Ls (.int ((x.toUInt32 >>> (y &&& 31).toUInt32).toInt32) :: st))) : Ends p e below s R n0 Q T (mkF m pc Ls (.int y :: .int x :: st)) := by
  subst hn; exact E.via fun t k => XS.iushr P.here P.hx rfl (hb P.code hd) rfl k
theorem lshl (P : Pos p l e R s m args below meth c Z own nm bytes maxL ret n0 T h cells slots) {x : Int64} {y : Int32} (hd : decode bytes pc = .ok (.lshl, 1)) (hn : n = pc + 1)
    (E : Ends p e below s R n0 Q T (mkF m n Ls (.long (x <<< (y &&& 0x3f).toInt64) :: st))) : Ends p e below s R n0 Q T (mkF m pc Ls (.int y :: .long x :: st)) := by
  subst hn; exact E.via fun t k => XS.lshl P.here P.hx rfl (hb P.code hd) rfl k
theorem lshr (P : Pos p l e R s m args below meth c Z own nm bytes maxL ret n0 T h cells slots) {x : Int64} {y : Int32} (hd : decode bytes pc = .ok (.lshr, 1)) (hn : n = pc + 1)
    (E : Ends p e below s R n0 Q T (mkF m n Ls (.long (x >>> (y &&& 0x3f).toInt64) :: st))) : Ends p e below s R n0 Q T (mkF m pc Ls (.int y :: .long x :: st)) := by
  subst hn; exact E.via fun t k => XS.lshr P.here P.hx rfl (hb P.code hd) rfl k
theorem lushr (P : Pos p l e R s m args below meth c Z own nm bytes maxL ret n0 T h cells slots) {x : Int64} {y : Int32} (hd : decode bytes pc = .ok (.lushr, 1)) (hn : n = pc + 1)
    (E : Ends p e below s R n0 Q T (mkF m n Ls (.long ((x.toUInt64 >>> (y &&& 0x3f).toInt64.toUInt64).toInt64) :: st))) : Ends p e below s R n0 Q T (mkF m pc Ls (.int y :: .long x :: st)) := by
  subst hn; exact E.via fun t k => XS.lushr P.here P.hx rfl (hb P.code hd) rfl k
theorem idiv (P : Pos p l e R s m args below meth c Z own nm bytes maxL ret n0 T h cells slots) {x y : Int32} (hd : decode bytes pc = .ok (.idiv, 1)) (hy : y ≠ 0) (hn : n = pc + 1)
    (E : Ends p e below s R n0 Q T (mkF m n Ls (.int (x / y) :: st))) : Ends p e below s R n0 Q T (mkF m pc Ls (.int y :: .int x :: st)) := by
  subst hn; exact E.via fun t k => XS.idiv P.here P.hx rfl (hb P.code hd) rfl hy k
theorem irem (P : Pos p l e R s m args below meth c Z own nm bytes maxL ret n0 T h cells slots) {x y : Int32} (hd : decode bytes pc = .ok (.irem, 1)) (hy : y ≠ 0) (hn : n = pc + 1)
    (E : Ends p e below s R n0 Q T (mkF m n Ls (.int (x % y) :: st))) : Ends p e below s R n0 Q T (mkF m pc Ls (.int y :: .int x :: st)) := by
  subst hn; obtain ⟨_, X, -⟩ := P.stand; exact E.via fun t k => Jvm.RoadKit.iremM X P.hx rfl (hb P.code hd) rfl hy k
theorem ldiv (P : Pos p l e R s m args below meth c Z own nm bytes maxL ret n0 T h cells slots) {x y : Int64} (hd : decode bytes pc = .ok (.ldiv, 1)) (hy : y ≠ 0) (hn : n = pc + 1)
    (E : Ends p e below s R n0 Q T (mkF m n Ls (.long (x / y) :: st))) : Ends p e below s R n0 Q T (mkF m pc Ls (.long y :: .long x :: st)) := by
  subst hn; exact E.via fun t k => XS.ldiv P.here P.hx rfl (hb P.code hd) rfl hy k
theorem lrem (P : Pos p l e R s m args below meth c Z own nm bytes maxL ret n0 T h cells slots) {x y : Int64} (hd : decode bytes pc = .ok (.lrem, 1)) (hy : y ≠ 0) (hn : n = pc + 1)
    (E : Ends p e below s R n0 Q T (mkF m n Ls (.long (x - (x / y) * y) :: st))) : Ends p e below s R n0 Q T (mkF m pc Ls (.long y :: .long x :: st)) := by
  subst hn; exact E.via fun t k => XS.lrem P.here P.hx rfl (hb P.code hd) rfl hy k
theorem ineg (P : Pos p l e R s m args below meth c Z own nm bytes maxL ret n0 T h cells slots) {x : Int32} (hd : decode bytes pc = .ok (.ineg, 1)) (hn : n = pc + 1)
    (E : Ends p e below s R n0 Q T (mkF m n Ls (.int (-x) :: st))) : Ends p e below s R n0 Q T (mkF m pc Ls (.int x :: st)) := by
  subst hn; exact E.via fun t k => XS.ineg P.here P.hx rfl (hb P.code hd) rfl k
theorem lneg (P : Pos p l e R s m args below meth c Z own nm bytes maxL ret n0 T h cells slots) {x : Int64} (hd : decode bytes pc = .ok (.lneg, 1)) (hn : n = pc + 1)
    (E : Ends p e below s R n0 Q T (mkF m n Ls (.long (-x) :: st))) : Ends p e below s R n0 Q T (mkF m pc Ls (.long x :: st)) := by
  subst hn; exact E.via fun t k => XS.lneg P.here P.hx rfl (hb P.code hd) rfl k
theorem i2l (P : Pos p l e R s m args below meth c Z own nm bytes maxL ret n0 T h cells slots) {x : Int32} (hd : decode bytes pc = .ok (.i2l, 1)) (hn : n = pc + 1)
    (E : Ends p e below s R n0 Q T (mkF m n Ls (.long (x.toInt64) :: st))) : Ends p e below s R n0 Q T (mkF m pc Ls (.int x :: st)) := by
  subst hn; exact E.via fun t k => XS.i2l P.here P.hx rfl (hb P.code hd) rfl k
theorem l2i (P : Pos p l e R s m args below meth c Z own nm bytes maxL ret n0 T h cells slots) {x : Int64} (hd : decode bytes pc = .ok (.l2i, 1)) (hn : n = pc + 1)
    (E : Ends p e below s R n0 Q T (mkF m n Ls (.int (x.toInt32) :: st))) : Ends p e below s R n0 Q T (mkF m pc Ls (.long x :: st)) := by
  subst hn; exact E.via fun t k => XS.l2i P.here P.hx rfl (hb P.code hd) rfl k
theorem i2b (P : Pos p l e R s m args below meth c Z own nm bytes maxL ret n0 T h cells slots) {x : Int32} (hd : decode bytes pc = .ok (.i2b, 1)) (hn : n = pc + 1)
    (E : Ends p e below s R n0 Q T (mkF m n Ls (.int (x.toInt8.toInt32) :: st))) : Ends p e below s R n0 Q T (mkF m pc Ls (.int x :: st)) := by
  subst hn; exact E.via fun t k => XS.i2b P.here P.hx rfl (hb P.code hd) rfl k
theorem i2s (P : Pos p l e R s m args below meth c Z own nm bytes maxL ret n0 T h cells slots) {x : Int32} (hd : decode bytes pc = .ok (.i2s, 1)) (hn : n = pc + 1)
    (E : Ends p e below s R n0 Q T (mkF m n Ls (.int (x.toInt16.toInt32) :: st))) : Ends p e below s R n0 Q T (mkF m pc Ls (.int x :: st)) := by
  subst hn; exact E.via fun t k => XS.i2s P.here P.hx rfl (hb P.code hd) rfl k
theorem i2c (P : Pos p l e R s m args below meth c Z own nm bytes maxL ret n0 T h cells slots) {x : Int32} (hd : decode bytes pc = .ok (.i2c, 1)) (hn : n = pc + 1)
    (E : Ends p e below s R n0 Q T (mkF m n Ls (.int (x.toUInt32.toUInt16.toUInt32.toInt32) :: st))) : Ends p e below s R n0 Q T (mkF m pc Ls (.int x :: st)) := by
  subst hn; exact E.via fun t k => XS.i2c P.here P.hx rfl (hb P.code hd) rfl k
theorem lcmp (P : Pos p l e R s m args below meth c Z own nm bytes maxL ret n0 T h cells slots) {x y : Int64} (hd : decode bytes pc = .ok (.lcmp, 1)) (hn : n = pc + 1)
    (E : Ends p e below s R n0 Q T (mkF m n Ls (.int (lcmpW x y) :: st))) : Ends p e below s R n0 Q T (mkF m pc Ls (.long y :: .long x :: st)) := by
  subst hn; exact E.via fun t k => XS.lcmp P.here P.hx rfl (hb P.code hd) rfl k
theorem iinc (P : Pos p l e R s m args below meth c Z own nm bytes maxL ret n0 T h cells slots) {j : Nat} {cst : Int} {x : Int32} {l' : Array Slot} (hd : decode bytes pc = .ok (.iinc j cst, 3)) {y : Int32} (hl : Ls[j]? = some (.val (.int x))) (hy : y = Int32.ofInt cst) (hl' : storeLocals Ls j (.int (x + Int32.ofInt cst)) = some l') (hn : n = pc + 3)
    (E : Ends p e below s R n0 Q T (mkF m n l' st)) : Ends p e below s R n0 Q T (mkF m pc Ls st) := by
  subst hn; exact E.via fun t k => XS.iinc P.here P.hx rfl (hb P.code hd) hl hl' k
theorem dup (P : Pos p l e R s m args below meth c Z own nm bytes maxL ret n0 T h cells slots) {x : Value} (hd : decode bytes pc = .ok (.dup, 1)) (hc : x.category = 1) (hn : n = pc + 1)
    (E : Ends p e below s R n0 Q T (mkF m n Ls (x :: x :: st))) : Ends p e below s R n0 Q T (mkF m pc Ls (x :: st)) := by
  subst hn; exact E.via fun t k => XS.dup P.here P.hx rfl (hb P.code hd) rfl hc k
theorem dupX1 (P : Pos p l e R s m args below meth c Z own nm bytes maxL ret n0 T h cells slots) {x y : Value} (hd : decode bytes pc = .ok (.dup_x1, 1)) (hc : x.category = 1) (hc' : y.category = 1) (hn : n = pc + 1)
    (E : Ends p e below s R n0 Q T (mkF m n Ls (x :: y :: x :: st))) : Ends p e below s R n0 Q T (mkF m pc Ls (x :: y :: st)) := by
  subst hn; exact E.via fun t k => XS.dupX1 P.here P.hx rfl (hb P.code hd) rfl hc hc' k
theorem dupD (P : Pos p l e R s m args below meth c Z own nm bytes maxL ret n0 T h cells slots) {x y : Value} (hd : decode bytes pc = .ok (.dup2, 1)) (hc : x.category = 1) (hc' : y.category = 1) (hn : n = pc + 1)
    (E : Ends p e below s R n0 Q T (mkF m n Ls (x :: y :: x :: y :: st))) : Ends p e below s R n0 Q T (mkF m pc Ls (x :: y :: st)) := by
  subst hn; exact E.via fun t k => XT.dup2 P.here P.hx rfl (hb P.code hd) rfl hc hc' k
theorem popV (P : Pos p l e R s m args below meth c Z own nm bytes maxL ret n0 T h cells slots) {x : Value} (hd : decode bytes pc = .ok (.pop, 1)) (hc : x.category = 1) (hn : n = pc + 1)
    (E : Ends p e below s R n0 Q T (mkF m n Ls st)) : Ends p e below s R n0 Q T (mkF m pc Ls (x :: st)) := by
  subst hn; exact E.via fun t k => XS.pop P.here P.hx rfl (hb P.code hd) rfl hc k
theorem goto {o : Int} (P : Pos p l e R s m args below meth c Z own nm bytes maxL ret n0 T h cells slots) (hd : decode bytes pc = .ok (.goto o, 3)) (ho : 0 ≤ (pc : Int) + o ∧ ((pc : Int) + o).toNat = n) (E : Ends p e below s R n0 Q T (mkF m n Ls st)) : Ends p e below s R n0 Q T (mkF m pc Ls st) :=
  E.via fun t k => XS.goto P.here P.hx rfl (pc0 := pc) (pc' := n) rfl (hb P.code hd) ho.1 ho.2 k
theorem icmpB {cd : ClassFile.Cond} {o : Int} {x y : Int32} {n' : Nat} (P : Pos p l e R s m args below meth c Z own nm bytes maxL ret n0 T h cells slots) (hd : decode bytes pc = .ok (.if_icmp cd o, 3)) (ho : 0 ≤ (pc : Int) + o ∧ ((pc : Int) + o).toNat = n') (hn : n = pc + 3)
    (Et : if_icmp.holds cd x y = true → Ends p e below s R n0 Q T (mkF m n' Ls st)) (Ef : if_icmp.holds cd x y = false → Ends p e below s R n0 Q T (mkF m n Ls st)) : Ends p e below s R n0 Q T (mkF m pc Ls (.int y :: .int x :: st)) := by
  subst hn
  cases hq : if_icmp.holds cd x y with
  | true => exact (Et hq).via fun t k => XS.icmpYes P.here P.hx rfl (pc0 := pc) (pc' := n') rfl (hb P.code hd) rfl hq ho.1 ho.2 k
  | false => exact (Ef hq).via fun t k => XS.icmpNo P.here P.hx rfl (hb P.code hd) rfl hq k
theorem ifB {cd : ClassFile.Cond} {o : Int} {x : Int32} {n' : Nat} (P : Pos p l e R s m args below meth c Z own nm bytes maxL ret n0 T h cells slots) (hd : decode bytes pc = .ok (.ifCond cd o, 3)) (ho : 0 ≤ (pc : Int) + o ∧ ((pc : Int) + o).toNat = n') (hn : n = pc + 3)
    (Et : ifCond.holds cd x = true → Ends p e below s R n0 Q T (mkF m n' Ls st)) (Ef : ifCond.holds cd x = false → Ends p e below s R n0 Q T (mkF m n Ls st)) : Ends p e below s R n0 Q T (mkF m pc Ls (.int x :: st)) := by
  subst hn
  cases hq : ifCond.holds cd x with
  | true => exact (Et hq).via fun t k => XS.ifYes P.here P.hx rfl (pc0 := pc) (pc' := n') rfl (hb P.code hd) rfl hq ho.1 ho.2 k
  | false => exact (Ef hq).via fun t k => XS.ifNo P.here P.hx rfl (hb P.code hd) rfl hq k
theorem acmpB {cd : ACond} {o : Int} {x y : Value} {n' : Nat} (P : Pos p l e R s m args below meth c Z own nm bytes maxL ret n0 T h cells slots) (hd : decode bytes pc = .ok (.if_acmp cd o, 3)) (h1 : x.isRef = true) (h2 : y.isRef = true) (ho : 0 ≤ (pc : Int) + o ∧ ((pc : Int) + o).toNat = n') (hn : n = pc + 3)
    (Et : acV cd (decide (x = y)) = true → Ends p e below s R n0 Q T (mkF m n' Ls st)) (Ef : acV cd (decide (x = y)) = false → Ends p e below s R n0 Q T (mkF m n Ls st)) : Ends p e below s R n0 Q T (mkF m pc Ls (y :: x :: st)) := by
  subst hn
  obtain ⟨_, X, -⟩ := P.stand
  cases hq : acV cd (decide (x = y)) with
  | true => exact (Et hq).via fun t k => Jvm.RoadKit.acmp (g := mkF m pc Ls (y :: x :: st)) X P.hx rfl h1 h2 (pc0 := pc) (pc' := n') (same := decide (x = y)) rfl (hb P.code hd) rfl rfl ho.1 (by rw [hq]; simp [ho.2]) k
  | false => exact (Ef hq).via fun t k => Jvm.RoadKit.acmp (g := mkF m pc Ls (y :: x :: st)) X P.hx rfl h1 h2 (pc0 := pc) (pc' := pc + 3) (same := decide (x = y)) rfl (hb P.code hd) rfl rfl ho.1 (by rw [hq]; simp) k
/-! what the conditions say, in numbers -/
def cP (cd : ClassFile.Cond) (x y : Int) : Prop := match cd with | .eq => x = y | .ne => ¬ x = y | .lt => x < y | .ge => y ≤ x | .gt => y < x | .le => x ≤ y
theorem ii {cd : ClassFile.Cond} {x y : Int32} {b : Bool} (q : if_icmp.holds cd x y = b) : cP cd x.toInt y.toInt ↔ b = true := by
  subst q; cases cd <;> simp [cP, if_icmp.holds, Int32.lt_iff_toInt_lt, Int32.le_iff_toInt_le, Int32.toInt_inj]
theorem i0 {cd : ClassFile.Cond} {x : Int32} {b : Bool} (q : ifCond.holds cd x = b) : cP cd x.toInt 0 ↔ b = true := ii ((if0 cd x).symm.trans q)
theorem l0 {cd : ClassFile.Cond} {x y : Int64} {b : Bool} (q : ifCond.holds cd (lcmpW x y) = b) : cP cd x.toInt y.toInt ↔ b = true := by
  have h1 := i0 q
  obtain ⟨c1, c2, c3⟩ := c_lcmp x y
  rw [← h1]
  cases cd <;> simp only [cP] <;> (rcases Int.lt_trichotomy x.toInt y.toInt with g | g | g) <;> first | (have := c1 g; omega) | (have := c2 g; omega) | (have := c3 g; omega)
theorem icmp_eq {o : Int} {x y : Int32} {n' : Nat} (P : Pos p l e R s m args below meth c Z own nm bytes maxL ret n0 T h cells slots) (hd : decode bytes pc = .ok (.if_icmp .eq o, 3)) (ho : 0 ≤ (pc : Int) + o ∧ ((pc : Int) + o).toNat = n') (hn : n = pc + 3)
    (Et : x.toInt = y.toInt → Ends p e below s R n0 Q T (mkF m n' Ls st)) (Ef : ¬ x.toInt = y.toInt → Ends p e below s R n0 Q T (mkF m n Ls st)) : Ends p e below s R n0 Q T (mkF m pc Ls (.int y :: .int x :: st)) :=
  icmpB P hd ho hn (fun q => Et (by have := ii q; simp only [cP, iff_true] at this; exact this)) (fun q => Ef (by have := ii q; simp only [cP, Bool.false_eq_true, iff_false] at this; omega))
theorem if0_eq {o : Int} {x : Int32} {n' : Nat} (P : Pos p l e R s m args below meth c Z own nm bytes maxL ret n0 T h cells slots) (hd : decode bytes pc = .ok (.ifCond .eq o, 3)) (ho : 0 ≤ (pc : Int) + o ∧ ((pc : Int) + o).toNat = n') (hn : n = pc + 3)
    (Et : x.toInt = 0 → Ends p e below s R n0 Q T (mkF m n' Ls st)) (Ef : ¬ x.toInt = 0 → Ends p e below s R n0 Q T (mkF m n Ls st)) : Ends p e below s R n0 Q T (mkF m pc Ls (.int x :: st)) :=
  ifB P hd ho hn (fun q => Et (by have := i0 q; simp only [cP, iff_true] at this; exact this)) (fun q => Ef (by have := i0 q; simp only [cP, Bool.false_eq_true, iff_false] at this; omega))
theorem ifl_eq {o : Int} {x y : Int64} {n' : Nat} (P : Pos p l e R s m args below meth c Z own nm bytes maxL ret n0 T h cells slots) (hd : decode bytes pc = .ok (.ifCond .eq o, 3)) (ho : 0 ≤ (pc : Int) + o ∧ ((pc : Int) + o).toNat = n') (hn : n = pc + 3)
    (Et : x.toInt = y.toInt → Ends p e below s R n0 Q T (mkF m n' Ls st)) (Ef : ¬ x.toInt = y.toInt → Ends p e below s R n0 Q T (mkF m n Ls st)) : Ends p e below s R n0 Q T (mkF m pc Ls (.int (lcmpW x y) :: st)) :=
  ifB P hd ho hn (fun q => Et (by have := l0 q; simp only [cP, iff_true] at this; exact this)) (fun q => Ef (by have := l0 q; simp only [cP, Bool.false_eq_true, iff_false] at this; omega))
theorem icmp_ne {o : Int} {x y : Int32} {n' : Nat} (P : Pos p l e R s m args below meth c Z own nm bytes maxL ret n0 T h cells slots) (hd : decode bytes pc = .ok (.if_icmp .ne o, 3)) (ho : 0 ≤ (pc : Int) + o ∧ ((pc : Int) + o).toNat = n') (hn : n = pc + 3)
    (Et : ¬ x.toInt = y.toInt → Ends p e below s R n0 Q T (mkF m n' Ls st)) (Ef : x.toInt = y.toInt → Ends p e below s R n0 Q T (mkF m n Ls st)) : Ends p e below s R n0 Q T (mkF m pc Ls (.int y :: .int x :: st)) :=
  icmpB P hd ho hn (fun q => Et (by have := ii q; simp only [cP, iff_true] at this; exact this)) (fun q => Ef (by have := ii q; simp only [cP, Bool.false_eq_true, iff_false] at this; omega))
theorem if0_ne {o : Int} {x : Int32} {n' : Nat} (P : Pos p l e R s m args below meth c Z own nm bytes maxL ret n0 T h cells slots) (hd : decode bytes pc = .ok (.ifCond .ne o, 3)) (ho : 0 ≤ (pc : Int) + o ∧ ((pc : Int) + o).toNat = n') (hn : n = pc + 3)
    (Et : ¬ x.toInt = 0 → Ends p e below s R n0 Q T (mkF m n' Ls st)) (Ef : x.toInt = 0 → Ends p e below s R n0 Q T (mkF m n Ls st)) : Ends p e below s R n0 Q T (mkF m pc Ls (.int x :: st)) :=
  ifB P hd ho hn (fun q => Et (by have := i0 q; simp only [cP, iff_true] at this; exact this)) (fun q => Ef (by have := i0 q; simp only [cP, Bool.false_eq_true, iff_false] at this; omega))
theorem ifl_ne {o : Int} {x y : Int64} {n' : Nat} (P : Pos p l e R s m args below meth c Z own nm bytes maxL ret n0 T h cells slots) (hd : decode bytes pc = .ok (.ifCond .ne o, 3)) (ho : 0 ≤ (pc : Int) + o ∧ ((pc : Int) + o).toNat = n') (hn : n = pc + 3)
    (Et : ¬ x.toInt = y.toInt → Ends p e below s R n0 Q T (mkF m n' Ls st)) (Ef : x.toInt = y.toInt → Ends p e below s R n0 Q T (mkF m n Ls st)) : Ends p e below s R n0 Q T (mkF m pc Ls (.int (lcmpW x y) :: st)) :=
  ifB P hd ho hn (fun q => Et (by have := l0 q; simp only [cP, iff_true] at this; exact this)) (fun q => Ef (by have := l0 q; simp only [cP, Bool.false_eq_true, iff_false] at this; omega))
theorem icmp_lt {o : Int} {x y : Int32} {n' : Nat} (P : Pos p l e R s m args below meth c Z own nm bytes maxL ret n0 T h cells slots) (hd : decode bytes pc = .ok (.if_icmp .lt o, 3)) (ho : 0 ≤ (pc : Int) + o ∧ ((pc : Int) + o).toNat = n') (hn : n = pc + 3)
    (Et : x.toInt < y.toInt → Ends p e below s R n0 Q T (mkF m n' Ls st)) (Ef : y.toInt ≤ x.toInt → Ends p e below s R n0 Q T (mkF m n Ls st)) : Ends p e below s R n0 Q T (mkF m pc Ls (.int y :: .int x :: st)) :=
  icmpB P hd ho hn (fun q => Et (by have := ii q; simp only [cP, iff_true] at this; exact this)) (fun q => Ef (by have := ii q; simp only [cP, Bool.false_eq_true, iff_false] at this; omega))
theorem if0_lt {o : Int} {x : Int32} {n' : Nat} (P : Pos p l e R s m args below meth c Z own nm bytes maxL ret n0 T h cells slots) (hd : decode bytes pc = .ok (.ifCond .lt o, 3)) (ho : 0 ≤ (pc : Int) + o ∧ ((pc : Int) + o).toNat = n') (hn : n = pc + 3)
    (Et : x.toInt < 0 → Ends p e below s R n0 Q T (mkF m n' Ls st)) (Ef : 0 ≤ x.toInt → Ends p e below s R n0 Q T (mkF m n Ls st)) : Ends p e below s R n0 Q T (mkF m pc Ls (.int x :: st)) :=
  ifB P hd ho hn (fun q => Et (by have := i0 q; simp only [cP, iff_true] at this; exact this)) (fun q => Ef (by have := i0 q; simp only [cP, Bool.false_eq_true, iff_false] at this; omega))
theorem ifl_lt {o : Int} {x y : Int64} {n' : Nat} (P : Pos p l e R s m args below meth c Z own nm bytes maxL ret n0 T h cells slots) (hd : decode bytes pc = .ok (.ifCond .lt o, 3)) (ho : 0 ≤ (pc : Int) + o ∧ ((pc : Int) + o).toNat = n') (hn : n = pc + 3)
    (Et : x.toInt < y.toInt → Ends p e below s R n0 Q T (mkF m n' Ls st)) (Ef : y.toInt ≤ x.toInt → Ends p e below s R n0 Q T (mkF m n Ls st)) : Ends p e below s R n0 Q T (mkF m pc Ls (.int (lcmpW x y) :: st)) :=
  ifB P hd ho hn (fun q => Et (by have := l0 q; simp only [cP, iff_true] at this; exact this)) (fun q => Ef (by have := l0 q; simp only [cP, Bool.false_eq_true, iff_false] at this; omega))
theorem icmp_ge {o : Int} {x y : Int32} {n' : Nat} (P : Pos p l e R s m args below meth c Z own nm bytes maxL ret n0 T h cells slots) (hd : decode bytes pc = .ok (.if_icmp .ge o, 3)) (ho : 0 ≤ (pc : Int) + o ∧ ((pc : Int) + o).toNat = n') (hn : n = pc + 3)
    (Et : y.toInt ≤ x.toInt → Ends p e below s R n0 Q T (mkF m n' Ls st)) (Ef : x.toInt < y.toInt → Ends p e below s R n0 Q T (mkF m n Ls st)) : Ends p e below s R n0 Q T (mkF m pc Ls (.int y :: .int x :: st)) :=
  icmpB P hd ho hn (fun q => Et (by have := ii q; simp only [cP, iff_true] at this; exact this)) (fun q => Ef (by have := ii q; simp only [cP, Bool.false_eq_true, iff_false] at this; omega))
theorem if0_ge {o : Int} {x : Int32} {n' : Nat} (P : Pos p l e R s m args below meth c Z own nm bytes maxL ret n0 T h cells slots) (hd : decode bytes pc = .ok (.ifCond .ge o, 3)) (ho : 0 ≤ (pc : Int) + o ∧ ((pc : Int) + o).toNat = n') (hn : n = pc + 3)
    (Et : 0 ≤ x.toInt → Ends p e below s R n0 Q T (mkF m n' Ls st)) (Ef : x.toInt < 0 → Ends p e below s R n0 Q T (mkF m n Ls st)) : Ends p e below s R n0 Q T (mkF m pc Ls (.int x :: st)) :=
  ifB P hd ho hn (fun q => Et (by have := i0 q; simp only [cP, iff_true] at this; exact this)) (fun q => Ef (by have := i0 q; simp only [cP, Bool.false_eq_true, iff_false] at this; omega))
theorem ifl_ge {o : Int} {x y : Int64} {n' : Nat} (P : Pos p l e R s m args below meth c Z own nm bytes maxL ret n0 T h cells slots) (hd : decode bytes pc = .ok (.ifCond .ge o, 3)) (ho : 0 ≤ (pc : Int) + o ∧ ((pc : Int) + o).toNat = n') (hn : n = pc + 3)
    (Et : y.toInt ≤ x.toInt → Ends p e below s R n0 Q T (mkF m n' Ls st)) (Ef : x.toInt < y.toInt → Ends p e below s R n0 Q T (mkF m n Ls st)) : Ends p e below s R n0 Q T (mkF m pc Ls (.int (lcmpW x y) :: st)) :=
  ifB P hd ho hn (fun q => Et (by have := l0 q; simp only [cP, iff_true] at this; exact this)) (fun q => Ef (by have := l0 q; simp only [cP, Bool.false_eq_true, iff_false] at this; omega))
theorem icmp_gt {o : Int} {x y : Int32} {n' : Nat} (P : Pos p l e R s m args below meth c Z own nm bytes maxL ret n0 T h cells slots) (hd : decode bytes pc = .ok (.if_icmp .gt o, 3)) (ho : 0 ≤ (pc : Int) + o ∧ ((pc : Int) + o).toNat = n') (hn : n = pc + 3)
    (Et : y.toInt < x.toInt → Ends p e below s R n0 Q T (mkF m n' Ls st)) (Ef : x.toInt ≤ y.toInt → Ends p e below s R n0 Q T (mkF m n Ls st)) : Ends p e below s R n0 Q T (mkF m pc Ls (.int y :: .int x :: st)) :=
  icmpB P hd ho hn (fun q => Et (by have := ii q; simp only [cP, iff_true] at this; exact this)) (fun q => Ef (by have := ii q; simp only [cP, Bool.false_eq_true, iff_false] at this; omega))
theorem if0_gt {o : Int} {x : Int32} {n' : Nat} (P : Pos p l e R s m args below meth c Z own nm bytes maxL ret n0 T h cells slots) (hd : decode bytes pc = .ok (.ifCond .gt o, 3)) (ho : 0 ≤ (pc : Int) + o ∧ ((pc : Int) + o).toNat = n') (hn : n = pc + 3)
    (Et : 0 < x.toInt → Ends p e below s R n0 Q T (mkF m n' Ls st)) (Ef : x.toInt ≤ 0 → Ends p e below s R n0 Q T (mkF m n Ls st)) : Ends p e below s R n0 Q T (mkF m pc Ls (.int x :: st)) :=
  ifB P hd ho hn (fun q => Et (by have := i0 q; simp only [cP, iff_true] at this; exact this)) (fun q => Ef (by have := i0 q; simp only [cP, Bool.false_eq_true, iff_false] at this; omega))
theorem ifl_gt {o : Int} {x y : Int64} {n' : Nat} (P : Pos p l e R s m args below meth c Z own nm bytes maxL ret n0 T h cells slots) (hd : decode bytes pc = .ok (.ifCond .gt o, 3)) (ho : 0 ≤ (pc : Int) + o ∧ ((pc : Int) + o).toNat = n') (hn : n = pc + 3)
    (Et : y.toInt < x.toInt → Ends p e below s R n0 Q T (mkF m n' Ls st)) (Ef : x.toInt ≤ y.toInt → Ends p e below s R n0 Q T (mkF m n Ls st)) : Ends p e below s R n0 Q T (mkF m pc Ls (.int (lcmpW x y) :: st)) :=
  ifB P hd ho hn (fun q => Et (by have := l0 q; simp only [cP, iff_true] at this; exact this)) (fun q => Ef (by have := l0 q; simp only [cP, Bool.false_eq_true, iff_false] at this; omega))
theorem icmp_le {o : Int} {x y : Int32} {n' : Nat} (P : Pos p l e R s m args below meth c Z own nm bytes maxL ret n0 T h cells slots) (hd : decode bytes pc = .ok (.if_icmp .le o, 3)) (ho : 0 ≤ (pc : Int) + o ∧ ((pc : Int) + o).toNat = n') (hn : n = pc + 3)
    (Et : x.toInt ≤ y.toInt → Ends p e below s R n0 Q T (mkF m n' Ls st)) (Ef : y.toInt < x.toInt → Ends p e below s R n0 Q T (mkF m n Ls st)) : Ends p e below s R n0 Q T (mkF m pc Ls (.int y :: .int x :: st)) :=
  icmpB P hd ho hn (fun q => Et (by have := ii q; simp only [cP, iff_true] at this; exact this)) (fun q => Ef (by have := ii q; simp only [cP, Bool.false_eq_true, iff_false] at this; omega))
theorem if0_le {o : Int} {x : Int32} {n' : Nat} (P : Pos p l e R s m args below meth c Z own nm bytes maxL ret n0 T h cells slots) (hd : decode bytes pc = .ok (.ifCond .le o, 3)) (ho : 0 ≤ (pc : Int) + o ∧ ((pc : Int) + o).toNat = n') (hn : n = pc + 3)
    (Et : x.toInt ≤ 0 → Ends p e below s R n0 Q T (mkF m n' Ls st)) (Ef : 0 < x.toInt → Ends p e below s R n0 Q T (mkF m n Ls st)) : Ends p e below s R n0 Q T (mkF m pc Ls (.int x :: st)) :=
  ifB P hd ho hn (fun q => Et (by have := i0 q; simp only [cP, iff_true] at this; exact this)) (fun q => Ef (by have := i0 q; simp only [cP, Bool.false_eq_true, iff_false] at this; omega))
theorem ifl_le {o : Int} {x y : Int64} {n' : Nat} (P : Pos p l e R s m args below meth c Z own nm bytes maxL ret n0 T h cells slots) (hd : decode bytes pc = .ok (.ifCond .le o, 3)) (ho : 0 ≤ (pc : Int) + o ∧ ((pc : Int) + o).toNat = n') (hn : n = pc + 3)
    (Et : x.toInt ≤ y.toInt → Ends p e below s R n0 Q T (mkF m n' Ls st)) (Ef : y.toInt < x.toInt → Ends p e below s R n0 Q T (mkF m n Ls st)) : Ends p e below s R n0 Q T (mkF m pc Ls (.int (lcmpW x y) :: st)) :=
  ifB P hd ho hn (fun q => Et (by have := l0 q; simp only [cP, iff_true] at this; exact this)) (fun q => Ef (by have := l0 q; simp only [cP, Bool.false_eq_true, iff_false] at this; omega))
theorem aT {x y : Value} (q : acV .eq (decide (x = y)) = true) : x = y := by simpa [acV] using q
theorem aF {x y : Value} (q : acV .eq (decide (x = y)) = false) : ¬ x = y := by simpa [acV] using q
theorem nT {x y : Value} (q : acV .ne (decide (x = y)) = true) : ¬ x = y := by simpa [acV] using q
theorem nF {x y : Value} (q : acV .ne (decide (x = y)) = false) : x = y := by simpa [acV] using q
/-! constants, statics, fields, objects -/
theorem ldcI {index : Nat} {v : Int32} (P : Pos p l e R s m args below meth c Z own nm bytes maxL ret n0 T h cells slots) (hd : decode bytes pc = .ok (.ldc index, 2)) (w : (Cond.constant own index v).before a0 Z = true) (hn : n = pc + 2) (E : Ends p e below s R n0 Q T (mkF m n Ls (.int v :: st))) : Ends p e below s R n0 Q T (mkF m pc Ls st) := by
  subst hn; obtain ⟨_, X, -⟩ := P.stand
  exact E.via fun t k => X.ldcInt P.hx P.own' (mvT P.hZ w) (g := mkF m pc Ls st) rfl (hb P.code hd) t k
theorem ldc2J {index : Nat} {v : Int64} (P : Pos p l e R s m args below meth c Z own nm bytes maxL ret n0 T h cells slots) (hd : decode bytes pc = .ok (.ldc2_w index, 3)) (w : (Cond.constantLong own index v).before a0 Z = true) (hn : n = pc + 3) (E : Ends p e below s R n0 Q T (mkF m n Ls (.long v :: st))) : Ends p e below s R n0 Q T (mkF m pc Ls st) := by
  subst hn; obtain ⟨_, X, -⟩ := P.stand
  exact E.via fun t k => X.ldc2Long P.hx P.own' (mvT P.hZ w) (g := mkF m pc Ls st) rfl (hb P.code hd) t k
theorem getS {index : Nat} {O f d : String} {v : Value} (P : Pos p l e R s m args below meth c Z own nm bytes maxL ret n0 T h cells slots) (hd : decode bytes pc = .ok (.getstatic index, 3)) (w : (Cond.fieldLink own index O f d).before a0 Z = true) (F : Sta Z h O f d v) (hn : n = pc + 3)
    (E : ∀ T, Pos p l e R s m args below meth c Z own nm bytes maxL ret n0 T h cells slots → Ends p e below s R n0 Q T (mkF m n Ls (v :: st))) : Ends p e below s R n0 Q T (mkF m pc Ls st) := by
  subst hn; obtain ⟨_, X, N⟩ := P.stand
  obtain ⟨T', X', e', k⟩ := Jvm.RoadKit.getS (host := "") X P.hx P.hZ P.own' w Via.refl P.heap F (g := mkF m pc Ls st) rfl (hb P.code hd)
  exact (E T' (P.to X' N e')).via k
theorem getF {index : Nat} {O f d : String} {v : Value} {a : Addr} (P : Pos p l e R s m args below meth c Z own nm bytes maxL ret n0 T h cells slots) (hd : decode bytes pc = .ok (.getfield index, 3)) (w : (Cond.fieldLink own index O f d).before a0 Z = true) (F : Fld Z h a O f d v) (hn : n = pc + 3)
    (E : ∀ T, Pos p l e R s m args below meth c Z own nm bytes maxL ret n0 T h cells slots → Ends p e below s R n0 Q T (mkF m n Ls (v :: st))) : Ends p e below s R n0 Q T (mkF m pc Ls (.ref a :: st)) := by
  subst hn; obtain ⟨_, X, N⟩ := P.stand
  obtain ⟨T', X', e', k⟩ := Jvm.RoadKit.getF (host := "") X P.hx P.hZ P.own' (Or.inl w) Via.refl P.heap F (g := mkF m pc Ls (.ref a :: st)) rfl rfl (hb P.code hd)
  exact (E T' (P.to X' N e')).via k
theorem putF {index kk : Nat} {O f d C : String} {v old : Value} {a : Addr} {ty : FieldType} (P : Pos p l e R s m args below meth c Z own nm bytes maxL ret n0 T h cells slots) (hd : decode bytes pc = .ok (.putfield index, 3)) (w : (Cond.fieldLink own index O f d).before a0 Z = true) (F : Fld Z h a O f d old) (X0 : Exa Z h a C)
    (L : (Cond.lays C O f d).before a0 Z = true ∨ ((Cond.laysFinal C O f d).before a0 Z = true ∧ own = O ∧ nm = "<init>")) (wi : (Cond.instantiable C kk).before a0 Z = true) (hty : parseFieldDescriptor d = some ty) (hnw : narrow ty v = v) (hf : fits ty v = true) (ha : n0 ≤ a) (hn : n = pc + 3)
    (E : ∀ T h', Pos p l e R s m args below meth c Z own nm bytes maxL ret n0 T h' cells slots → Wr h h' a (Jvm.RoadKit.slotOf Z O f d) v → Ends p e below s R n0 Q T (mkF m n Ls st)) : Ends p e below s R n0 Q T (mkF m pc Ls (v :: .ref a :: st)) := by
  subst hn; obtain ⟨_, X, N⟩ := P.stand
  obtain ⟨T', h', X', e', W, k⟩ := Jvm.RoadKit.putF (host := "") X P.hx P.hZ P.own' (Or.inl w) Via.refl P.heap F X0 (L.imp id fun q => ⟨q.1, q.2.1, P.name.trans q.2.2⟩) wi hty hnw hf (g := mkF m pc Ls (v :: .ref a :: st)) rfl rfl (hb P.code hd)
  exact (E T' h' (P.to X' (Fr.snoc X' N ha) e') W).via k
theorem newO {index k : Nat} {C : String} (P : Pos p l e R s m args below meth c Z own nm bytes maxL ret n0 T h cells slots) (hd : decode bytes pc = .ok (.new index, 3)) (w : (Cond.classLink own index C).before a0 Z = true) (wi : (Cond.instantiable C k).before a0 Z = true) (wz : (Cond.initialized C).before a0 Z = true) (hc : cells + 1 ≤ R.cells) (hl : slots + k ≤ R.slots) (hn : n = pc + 3)
    (E : ∀ T h' a, Pos p l e R s m args below meth c Z own nm bytes maxL ret n0 T h' (cells + 1) (slots + k) → Ext h h' → a = h.size → n0 ≤ a → Exa Z h' a C → (∀ {O f d : String} {ty : FieldType}, Laid Z a0 C O f d → parseFieldDescriptor d = some ty → Fld Z h' a O f d (defaultValue ty)) → Ends p e below s R n0 Q T (mkF m n Ls (.ref a :: st))) : Ends p e below s R n0 Q T (mkF m pc Ls st) := by
  subst hn; obtain ⟨_, X, N⟩ := P.stand
  obtain ⟨T', h', X', e', Ex, A, D, -, kk⟩ := Jvm.RoadKit.newO X P.hx P.hZ P.own' w wi wz P.heap (g := mkF m pc Ls st) rfl (hb P.code hd) hc hl
  exact (E T' h' _ (P.to X' N e') Ex rfl P.low A D).via kk
theorem initO {index : Nat} {a : Addr} (P : Pos p l e R s m args below meth c Z own nm bytes maxL ret n0 T h cells slots) (hd : decode bytes pc = .ok (.invokespecial index, 3)) (w1 : (Cond.methodLink own index Lib.objectInit).before a0 Z = true) (w2 : (Cond.instanceMethod Lib.objectInit).before a0 Z = true) (w3 : (Cond.code Lib.objectInit ⟨#[0xb1]⟩ 1 none).before a0 Z = true) (hsz : Ls.size = maxL)
    (hf : 1 ≤ R.frames) (hl : (st.map fun v => v.category).sum + 12 ≤ R.locals) (hn : n = pc + 3) (E : ∀ T, Pos p l e R s m args below meth c Z own nm bytes maxL ret n0 T h cells slots → Ends p e below s R n0 Q T (mkF m n Ls st)) : Ends p e below s R n0 Q T (mkF m pc Ls (.ref a :: st)) := by
  subst hn; obtain ⟨_, X, N⟩ := P.stand
  obtain ⟨T', X', e', k⟩ := Jvm.RoadKit.initO X P.hx P.hZ P.own' w1 w2 w3 P.heap (g := mkF m pc Ls (.ref a :: st)) rfl (hsz.trans P.maxl.symm) rfl (hb P.code hd) hf (W := (st.map fun v => v.category).sum) (by show 2 * 0 + _ ≤ _; omega) hl
  exact (E T' (P.to X' N e')).via k
/-! arrays: a length and what each place holds -/
def AR (Z : State) (h : Heap) (a : Addr) (ty : FieldType) (k : Nat) (f : Nat → Value) : Prop := ∃ cl : Cell, Arr Z h a cl ty ∧ cl.slots.size = k ∧ k < 2 ^ 31 ∧ ∀ i, i < k → cl.slots[i]? = some (f i)
/-- one place changed -/
def ovr {α : Type} (g : Nat → α) (i : Nat) (x : α) : Nat → α := fun j => if j = i then x else g j
theorem ovr_at {α : Type} (g : Nat → α) (i : Nat) (x : α) : ovr g i x i = x := by simp [ovr]
theorem ovr_ne {α : Type} (g : Nat → α) {i j : Nat} (x : α) (q : j ≠ i) : ovr g i x j = g j := by simp [ovr, q]
abbrev ARI (Z : State) (h : Heap) (a : Addr) (ty : FieldType) (k : Nat) (g : Nat → Int32) : Prop := AR Z h a ty k (fun i => .int (g i))
abbrev ARJ (Z : State) (h : Heap) (a : Addr) (k : Nat) (g : Nat → Int64) : Prop := AR Z h a .long k (fun i => .long (g i))
variable {a b : Addr} {ty : FieldType} {k : Nat} {f : Nat → Value}
theorem AR.lt (A : AR Z h a ty k f) : a < h.size := by obtain ⟨_, B, -⟩ := A; exact B.lt
theorem AR.len (A : AR Z h a ty k f) : k < 2 ^ 31 := by obtain ⟨_, _, _, r, _⟩ := A; exact r
theorem AR.ext (A : AR Z h a ty k f) (E : Ext h h') : AR Z h' a ty k f := by obtain ⟨cl, B, r⟩ := A; exact ⟨cl, B.ext E, r⟩
theorem AR.other {sl : Nat} {v : Value} (A : AR Z h b ty k f) (W : Wr h h' a sl v) (q : b ≠ a) : AR Z h' b ty k f := by obtain ⟨cl, B, r⟩ := A; exact ⟨cl, B.other W q, r⟩
theorem AR.keep {ws : List Addr} (A : AR Z h a ty k f) (K : Keep h h' ws) (q : a ∉ ws) : AR Z h' a ty k f := by obtain ⟨cl, B, r⟩ := A; exact ⟨cl, ⟨K.2.1 a cl B.1 q, B.2⟩, r⟩
theorem AR.congr {g : Nat → Value} (A : AR Z h a ty k f) (q : ∀ i, i < k → f i = g i) : AR Z h a ty k g := by obtain ⟨cl, B, r1, r2, r3⟩ := A; exact ⟨cl, B, r1, r2, fun i hi => by rw [r3 i hi, q i hi]⟩
theorem AR.set {i : Nat} {v : Value} (A : AR Z h a ty k f) (W : Wr h h' a i v) : AR Z h' a ty k (ovr f i v) := by
  obtain ⟨cl, B, r1, r2, r3⟩ := A
  refine ⟨_, B.same W, by rw [sz_set]; exact r1, r2, fun j hj => ?_⟩
  by_cases u : j = i
  · subst u; simp [Cell.setSlot, r1, hj, ovr]
  · simp only [Cell.setSlot, ovr, if_neg u]
    rw [Array.getElem?_setIfInBounds_ne (Ne.symm u)]; exact r3 j hj
theorem ARI.set {g : Nat → Int32} {i : Nat} {x : Int32} (A : ARI Z h a ty k g) (W : Wr h h' a i (.int x)) : ARI Z h' a ty k (ovr g i x) := by
  refine (AR.set A W).congr fun j _ => ?_
  by_cases u : j = i <;> simp [ovr, u]
theorem ARJ.set {g : Nat → Int64} {i : Nat} {x : Int64} (A : ARJ Z h a k g) (W : Wr h h' a i (.long x)) : ARJ Z h' a k (ovr g i x) := by
  refine (AR.set A W).congr fun j _ => ?_
  by_cases u : j = i <;> simp [ovr, u]
theorem inA {j : Int32} {i : Nat} {cl : Cell} (q : j.toInt = i ∧ i < k) (e : cl.slots.size = k) : ¬ (j < 0 ∨ cl.slots.size ≤ j.toNatClampNeg) ∧ j.toNatClampNeg = i := by
  have e0 : (0 : Int32).toInt = 0 := rfl
  simp only [Int32.lt_iff_toInt_lt, Int32.toNatClampNeg, e, e0]; omega
theorem newP {aty : ArrayType} {x : Int32} {cap : Nat} (P : Pos p l e R s m args below meth c Z own nm bytes maxL ret n0 T h cells slots) (hd : decode bytes pc = .ok (.newarray aty, 2)) (w : (Cond.arrayClass (newarray.typeOf aty)).before a0 Z = true) (hx : x.toInt = k ∧ k ≤ cap) (hb' : cap * 8 ≤ 536870912) (hc : cells + 1 ≤ R.cells ∧ slots + cap ≤ R.slots) (hn : n = pc + 2)
    (E : ∀ T h' a, Pos p l e R s m args below meth c Z own nm bytes maxL ret n0 T h' (cells + 1) (slots + cap) → Ext h h' → a = h.size → n0 ≤ a → AR Z h' a (newarray.typeOf aty) k (fun _ => defaultValue (newarray.typeOf aty)) → Ends p e below s R n0 Q T (mkF m n Ls (.ref a :: st))) : Ends p e below s R n0 Q T (mkF m pc Ls (.int x :: st)) := by
  subst hn; obtain ⟨_, X, N⟩ := P.stand
  have e0 : (0 : Int32).toInt = 0 := rfl
  have q1 : ¬ x < 0 := by rw [Int32.lt_iff_toInt_lt, e0]; omega
  have q2 : x.toNatClampNeg = k := by simp only [Int32.toNatClampNeg]; omega
  obtain ⟨T', h', cA, X', e', Ex, A, kk⟩ := Jvm.RoadKit.newP X P.hx P.hZ w P.heap (g := mkF m pc Ls (.int x :: st)) rfl (hb P.code hd) rfl q1 (cap := cap) (by omega) hb' hc.1 hc.2
  refine (E T' h' _ (P.to X' N e') Ex rfl P.low ⟨_, A, (sz_new _ _ _).trans q2, by have := rng32 x; omega, fun i hi => ?_⟩).via kk
  rw [← q2] at hi
  simp [newA, hi]
theorem ldA {i : Instr} {j : Int32} {u : Nat} {v : Value} (P : Pos p l e R s m args below meth c Z own nm bytes maxL ret n0 T h cells slots) (hd : decode bytes pc = .ok (i, 1)) (A : AR Z h a ty k f) (hi : (i = .baload ∧ (ty = .byte ∨ ty = .boolean)) ∨ (i = .iaload ∧ ty = .int) ∨ (i = .laload ∧ ty = .long) ∨ (i = .caload ∧ ty = .char) ∨ (i = .aaload ∧ ty.isReference = true)) (hj : j.toInt = u ∧ u < k) (hv : v = f u) (hn : n = pc + 1)
    (E : Ends p e below s R n0 Q T (mkF m n Ls (v :: st))) : Ends p e below s R n0 Q T (mkF m pc Ls (.int j :: .ref a :: st)) := by
  subst hn hv; obtain ⟨_, X, N⟩ := P.stand
  obtain ⟨cl, B, r1, r2, r3⟩ := A
  obtain ⟨q1, q5⟩ := inA hj r1
  have q2 : cl.slots[j.toNatClampNeg]? = some (f u) := by rw [q5]; exact r3 _ hj.2
  have q3 : T.heap[a]? = some cl := by rw [P.heap]; exact B.1
  have q4 := State.isArrayOf_alike (T := s) P.hZ.alike B.2.1
  rcases hi with ⟨rfl, rfl | rfl⟩ | ⟨rfl, rfl⟩ | ⟨rfl, rfl⟩ | ⟨rfl, rfl⟩ | ⟨rfl, ht⟩
  · exact E.via fun t k => X.baloadBytes P.hx q3 q4 B.2.2 q1 q2 (g := mkF m pc Ls (.int j :: .ref a :: st)) rfl rfl (hb P.code hd) t k
  · exact E.via fun t k => X.baloadBooleans P.hx q3 q4 B.2.2 q1 q2 (g := mkF m pc Ls (.int j :: .ref a :: st)) rfl rfl (hb P.code hd) t k
  · exact E.via fun t k => X.iaload P.hx q3 q4 B.2.2 q1 q2 (g := mkF m pc Ls (.int j :: .ref a :: st)) rfl rfl (hb P.code hd) t k
  · exact E.via fun t k => X.laload P.hx q3 q4 B.2.2 q1 q2 (g := mkF m pc Ls (.int j :: .ref a :: st)) rfl rfl (hb P.code hd) t k
  · exact E.via fun t k => X.caload P.hx q3 q4 B.2.2 q1 q2 (g := mkF m pc Ls (.int j :: .ref a :: st)) rfl rfl (hb P.code hd) t k
  · exact E.via fun t k => X.aaload P.hx q3 q4 ht B.2.2 q1 q2 (g := mkF m pc Ls (.int j :: .ref a :: st)) rfl rfl (hb P.code hd) t k
theorem baloadI {j : Int32} {u : Nat} {g : Nat → Int32} (P : Pos p l e R s m args below meth c Z own nm bytes maxL ret n0 T h cells slots) (hd : decode bytes pc = .ok (.baload, 1)) (A : ARI Z h a .byte k g) (hj : j.toInt = u ∧ u < k) (hn : n = pc + 1) (E : Ends p e below s R n0 Q T (mkF m n Ls (.int (g u) :: st))) : Ends p e below s R n0 Q T (mkF m pc Ls (.int j :: .ref a :: st)) := ldA P hd A (Or.inl ⟨rfl, Or.inl rfl⟩) hj rfl hn E
theorem zaloadI {j : Int32} {u : Nat} {g : Nat → Int32} (P : Pos p l e R s m args below meth c Z own nm bytes maxL ret n0 T h cells slots) (hd : decode bytes pc = .ok (.baload, 1)) (A : ARI Z h a .boolean k g) (hj : j.toInt = u ∧ u < k) (hn : n = pc + 1) (E : Ends p e below s R n0 Q T (mkF m n Ls (.int (g u) :: st))) : Ends p e below s R n0 Q T (mkF m pc Ls (.int j :: .ref a :: st)) := ldA P hd A (Or.inl ⟨rfl, Or.inr rfl⟩) hj rfl hn E
theorem ialoadI {j : Int32} {u : Nat} {g : Nat → Int32} (P : Pos p l e R s m args below meth c Z own nm bytes maxL ret n0 T h cells slots) (hd : decode bytes pc = .ok (.iaload, 1)) (A : ARI Z h a .int k g) (hj : j.toInt = u ∧ u < k) (hn : n = pc + 1) (E : Ends p e below s R n0 Q T (mkF m n Ls (.int (g u) :: st))) : Ends p e below s R n0 Q T (mkF m pc Ls (.int j :: .ref a :: st)) := ldA P hd A (Or.inr (Or.inl ⟨rfl, rfl⟩)) hj rfl hn E
theorem laloadJ {j : Int32} {u : Nat} {g : Nat → Int64} (P : Pos p l e R s m args below meth c Z own nm bytes maxL ret n0 T h cells slots) (hd : decode bytes pc = .ok (.laload, 1)) (A : ARJ Z h a k g) (hj : j.toInt = u ∧ u < k) (hn : n = pc + 1) (E : Ends p e below s R n0 Q T (mkF m n Ls (.long (g u) :: st))) : Ends p e below s R n0 Q T (mkF m pc Ls (.int j :: .ref a :: st)) := ldA P hd A (Or.inr (Or.inr (Or.inl ⟨rfl, rfl⟩))) hj rfl hn E
theorem alen {x : Int32} (P : Pos p l e R s m args below meth c Z own nm bytes maxL ret n0 T h cells slots) (hd : decode bytes pc = .ok (.arraylength, 1)) (A : AR Z h a ty k f) (hx : x.toInt = k) (hn : n = pc + 1)
    (E : Ends p e below s R n0 Q T (mkF m n Ls (.int x :: st))) : Ends p e below s R n0 Q T (mkF m pc Ls (.ref a :: st)) := by
  subst hn; obtain ⟨_, X, N⟩ := P.stand
  obtain ⟨cl, B, r1, r2, r3⟩ := A
  have q4 := State.isArrayOf_alike (T := s) P.hZ.alike B.2.1
  have q5 : cl.slots.size.toInt32 = x := by rw [← Int32.toInt_inj, len_toInt (by omega), r1, hx]
  exact E.via fun t k => X.arraylength P.hx (by rw [P.heap]; exact B.1) q4 (g := mkF m pc Ls (.ref a :: st)) rfl rfl (hb P.code hd) t (by rw [q5]; exact k)
theorem stI {j : Int32} {u : Nat} {x : Int32} (P : Pos p l e R s m args below meth c Z own nm bytes maxL ret n0 T h cells slots) (hd : decode bytes pc = .ok (.iastore, 1)) (A : AR Z h a .int k f) (hj : j.toInt = u ∧ u < k) (ha : n0 ≤ a) (hn : n = pc + 1)
    (E : ∀ T h', Pos p l e R s m args below meth c Z own nm bytes maxL ret n0 T h' cells slots → Wr h h' a u (.int (x)) → Ends p e below s R n0 Q T (mkF m n Ls st)) : Ends p e below s R n0 Q T (mkF m pc Ls (.int x :: .int j :: .ref a :: st)) := by
  subst hn; obtain ⟨_, X, N⟩ := P.stand
  obtain ⟨cl, B, r1, r2, r3⟩ := A
  obtain ⟨q1, q5⟩ := inA hj r1
  obtain ⟨T', h', X', e', W, kk⟩ := Jvm.RoadKit.stI X P.hx P.hZ P.heap B q1 (g := mkF m pc Ls (.int x :: .int j :: .ref a :: st)) rfl rfl (hb P.code hd)
  rw [q5] at W X'
  refine (E T' h' (P.to X' (Fr.snoc X' N ha) e') ?_).via kk
  exact W
theorem stJ {j : Int32} {u : Nat} {x : Int64} (P : Pos p l e R s m args below meth c Z own nm bytes maxL ret n0 T h cells slots) (hd : decode bytes pc = .ok (.lastore, 1)) (A : AR Z h a .long k f) (hj : j.toInt = u ∧ u < k) (ha : n0 ≤ a) (hn : n = pc + 1)
    (E : ∀ T h', Pos p l e R s m args below meth c Z own nm bytes maxL ret n0 T h' cells slots → Wr h h' a u (.long (x)) → Ends p e below s R n0 Q T (mkF m n Ls st)) : Ends p e below s R n0 Q T (mkF m pc Ls (.long x :: .int j :: .ref a :: st)) := by
  subst hn; obtain ⟨_, X, N⟩ := P.stand
  obtain ⟨cl, B, r1, r2, r3⟩ := A
  obtain ⟨q1, q5⟩ := inA hj r1
  obtain ⟨T', h', X', e', W, kk⟩ := Jvm.RoadKit.stJ X P.hx P.hZ P.heap B q1 (g := mkF m pc Ls (.long x :: .int j :: .ref a :: st)) rfl rfl (hb P.code hd)
  rw [q5] at W X'
  refine (E T' h' (P.to X' (Fr.snoc X' N ha) e') ?_).via kk
  exact W
theorem stB {j : Int32} {u : Nat} {x : Int32} (P : Pos p l e R s m args below meth c Z own nm bytes maxL ret n0 T h cells slots) (hd : decode bytes pc = .ok (.bastore, 1)) (A : AR Z h a .byte k f) (hj : j.toInt = u ∧ u < k) (ha : n0 ≤ a) (hn : n = pc + 1)
    (E : ∀ T h', Pos p l e R s m args below meth c Z own nm bytes maxL ret n0 T h' cells slots → Wr h h' a u (.int (x.toInt8.toInt32)) → Ends p e below s R n0 Q T (mkF m n Ls st)) : Ends p e below s R n0 Q T (mkF m pc Ls (.int x :: .int j :: .ref a :: st)) := by
  subst hn; obtain ⟨_, X, N⟩ := P.stand
  obtain ⟨cl, B, r1, r2, r3⟩ := A
  obtain ⟨q1, q5⟩ := inA hj r1
  obtain ⟨T', h', X', e', W, kk⟩ := Jvm.RoadKit.stB X P.hx P.hZ P.heap B q1 (g := mkF m pc Ls (.int x :: .int j :: .ref a :: st)) rfl rfl (hb P.code hd)
  rw [q5] at W X'
  refine (E T' h' (P.to X' (Fr.snoc X' N ha) e') ?_).via kk
  exact W
theorem stZ {j : Int32} {u : Nat} {x : Int32} (P : Pos p l e R s m args below meth c Z own nm bytes maxL ret n0 T h cells slots) (hd : decode bytes pc = .ok (.bastore, 1)) (A : AR Z h a .boolean k f) (hj : j.toInt = u ∧ u < k) (ha : n0 ≤ a) (hz : x = 0 ∨ x = 1) (hn : n = pc + 1)
    (E : ∀ T h', Pos p l e R s m args below meth c Z own nm bytes maxL ret n0 T h' cells slots → Wr h h' a u (.int (x)) → Ends p e below s R n0 Q T (mkF m n Ls st)) : Ends p e below s R n0 Q T (mkF m pc Ls (.int x :: .int j :: .ref a :: st)) := by
  subst hn; obtain ⟨_, X, N⟩ := P.stand
  obtain ⟨cl, B, r1, r2, r3⟩ := A
  obtain ⟨q1, q5⟩ := inA hj r1
  obtain ⟨T', h', X', e', W, kk⟩ := Jvm.RoadKit.stZ X P.hx P.hZ P.heap B q1 (g := mkF m pc Ls (.int x :: .int j :: .ref a :: st)) rfl rfl (hb P.code hd)
  rw [q5] at W X'
  refine (E T' h' (P.to X' (Fr.snoc X' N ha) e') ?_).via kk
  rcases hz with rfl | rfl <;> exact W
theorem stC {j : Int32} {u : Nat} {x : Int32} (P : Pos p l e R s m args below meth c Z own nm bytes maxL ret n0 T h cells slots) (hd : decode bytes pc = .ok (.castore, 1)) (A : AR Z h a .char k f) (hj : j.toInt = u ∧ u < k) (ha : n0 ≤ a) (hn : n = pc + 1)
    (E : ∀ T h', Pos p l e R s m args below meth c Z own nm bytes maxL ret n0 T h' cells slots → Wr h h' a u (.int (nar .char x)) → Ends p e below s R n0 Q T (mkF m n Ls st)) : Ends p e below s R n0 Q T (mkF m pc Ls (.int x :: .int j :: .ref a :: st)) := by
  subst hn; obtain ⟨_, X, N⟩ := P.stand
  obtain ⟨cl, B, r1, r2, r3⟩ := A
  obtain ⟨q1, q5⟩ := inA hj r1
  obtain ⟨T', h', X', e', W, kk⟩ := Jvm.RoadKit.stC X P.hx P.hZ P.heap B q1 (g := mkF m pc Ls (.int x :: .int j :: .ref a :: st)) rfl rfl (hb P.code hd)
  rw [q5] at W X'
  exact (E T' h' (P.to X' (Fr.snoc X' N ha) e') W).via kk
/-- the library's form of an array -/
theorem AR.arv {vs : List Value} {dv : Value} {N : Int32} (A : AR Z h a ty k f) (hN : N.toInt = k) (hv : ∀ i, i < k → f i = vs.getD i dv) (hf : ∀ i, i < k → fits ty (vs.getD i dv) = true) : ∃ kC, Arv Z h a kC ty N vs dv := by
  obtain ⟨cl, B, r1, r2, r3⟩ := A
  have e0 : (0 : Int32).toInt = 0 := rfl
  refine ⟨cl.cls, cl, B, rfl, by rw [r1]; simp only [Int32.toNatClampNeg]; omega, by rw [Int32.lt_iff_toInt_lt, e0]; omega, fun i hi => ?_, fun i hi => hf i (r1 ▸ hi)⟩
  rw [r1] at hi; rw [r3 i hi, hv i hi]
/-! arrays of references -/
def ARC (Z : State) (h : Heap) (a : Addr) (C : String) (k : Nat) (f : Nat → Value) : Prop := ∃ cl : Cell, Arr Z h a cl (.object C) ∧ cl.slots.size = k ∧ k < 2 ^ 31 ∧ (∀ i, i < k → cl.slots[i]? = some (f i)) ∧ Ovr Z cl.cls C
theorem ARC.ar {C : String} (A : ARC Z h a C k f) : AR Z h a (.object C) k f := by obtain ⟨cl, B, r1, r2, r3, -⟩ := A; exact ⟨cl, B, r1, r2, r3⟩
theorem ARC.lt {C : String} (A : ARC Z h a C k f) : a < h.size := A.ar.lt
theorem ARC.ext {C : String} (A : ARC Z h a C k f) (E : Ext h h') : ARC Z h' a C k f := by obtain ⟨cl, B, r⟩ := A; exact ⟨cl, B.ext E, r⟩
theorem ARC.other {C : String} {sl : Nat} {v : Value} (A : ARC Z h b C k f) (W : Wr h h' a sl v) (q : b ≠ a) : ARC Z h' b C k f := by obtain ⟨cl, B, r⟩ := A; exact ⟨cl, B.other W q, r⟩
theorem ARC.set {C : String} {i : Nat} {v : Value} (A : ARC Z h a C k f) (W : Wr h h' a i v) : ARC Z h' a C k (ovr f i v) := by
  obtain ⟨cl, B, r1, r2, r3, r4⟩ := A
  refine ⟨_, B.same W, by rw [sz_set]; exact r1, r2, fun j hj => ?_, r4⟩
  by_cases u : j = i
  · subst u; simp [Cell.setSlot, r1, hj, ovr]
  · simp only [Cell.setSlot, ovr, if_neg u]
    rw [Array.getElem?_setIfInBounds_ne (Ne.symm u)]; exact r3 j hj
theorem newR {index : Nat} {C : String} {x : Int32} {cap : Nat} (P : Pos p l e R s m args below meth c Z own nm bytes maxL ret n0 T h cells slots) (hd : decode bytes pc = .ok (.anewarray index, 3)) (w1 : (Cond.classLink own index C).before a0 Z = true) (w2 : (Cond.arrayOver (.object C)).before a0 Z = true) (hx : x.toInt = k ∧ k ≤ cap) (hb' : cap * 8 ≤ 536870912) (hc : cells + 1 ≤ R.cells ∧ slots + cap ≤ R.slots) (hn : n = pc + 3)
    (E : ∀ T h' a, Pos p l e R s m args below meth c Z own nm bytes maxL ret n0 T h' (cells + 1) (slots + cap) → Ext h h' → a = h.size → n0 ≤ a → ARC Z h' a C k (fun _ => .null) → Ends p e below s R n0 Q T (mkF m n Ls (.ref a :: st))) : Ends p e below s R n0 Q T (mkF m pc Ls (.int x :: st)) := by
  subst hn; obtain ⟨_, X, N⟩ := P.stand
  have e0 : (0 : Int32).toInt = 0 := rfl
  have q1 : ¬ x < 0 := by rw [Int32.lt_iff_toInt_lt, e0]; omega
  have q2 : x.toNatClampNeg = k := by simp only [Int32.toNatClampNeg]; omega
  obtain ⟨T', h', cA, X', e', Ex, A, O, kk⟩ := Jvm.RoadKit.newR X P.hx P.hZ P.own' w1 w2 P.heap (g := mkF m pc Ls (.int x :: st)) rfl (hb P.code hd) rfl q1 (cap := cap) (by omega) hb' hc.1 hc.2
  refine (E T' h' _ (P.to X' N e') Ex rfl P.low ⟨_, A, (sz_new _ _ _).trans q2, by have := rng32 x; omega, fun i hi => ?_, O⟩).via kk
  rw [← q2] at hi
  simp [newA, hi, defaultValue]
theorem stR {C : String} {j : Int32} {u : Nat} {y : Addr} (P : Pos p l e R s m args below meth c Z own nm bytes maxL ret n0 T h cells slots) (hd : decode bytes pc = .ok (.aastore, 1)) (A : ARC Z h a C k f) (hj : j.toInt = u ∧ u < k) (I : Ins Z h y C true) (ha : n0 ≤ a) (hn : n = pc + 1)
    (E : ∀ T h', Pos p l e R s m args below meth c Z own nm bytes maxL ret n0 T h' cells slots → Wr h h' a u (.ref y) → Ends p e below s R n0 Q T (mkF m n Ls st)) : Ends p e below s R n0 Q T (mkF m pc Ls (.ref y :: .int j :: .ref a :: st)) := by
  subst hn; obtain ⟨_, X, N⟩ := P.stand
  obtain ⟨cl, B, r1, r2, r3, r4⟩ := A
  obtain ⟨q1, q5⟩ := inA hj r1
  obtain ⟨T', h', X', e', W, kk⟩ := Jvm.RoadKit.stR X P.hx P.hZ P.heap B q1 rfl (Sto.of B r4 I) (g := mkF m pc Ls (.ref y :: .int j :: .ref a :: st)) rfl rfl (hb P.code hd)
  rw [q5] at W X'
  exact (E T' h' (P.to X' (Fr.snoc X' N ha) e') W).via kk
/-- null into an array of references -/
theorem stN {j : Int32} {u : Nat} (P : Pos p l e R s m args below meth c Z own nm bytes maxL ret n0 T h cells slots) (hd : decode bytes pc = .ok (.aastore, 1)) (A : AR Z h a ty k f) (ht : ty.isReference = true) (hj : j.toInt = u ∧ u < k) (ha : n0 ≤ a) (hn : n = pc + 1)
    (E : ∀ T h', Pos p l e R s m args below meth c Z own nm bytes maxL ret n0 T h' cells slots → Wr h h' a u .null → Ends p e below s R n0 Q T (mkF m n Ls st)) : Ends p e below s R n0 Q T (mkF m pc Ls (.null :: .int j :: .ref a :: st)) := by
  subst hn; obtain ⟨_, X, N⟩ := P.stand
  obtain ⟨cl, B, r1, r2, r3⟩ := A
  obtain ⟨q1, q5⟩ := inA hj r1
  obtain ⟨T', h', X', e', W, kk⟩ := Jvm.RoadKit.stR X P.hx P.hZ P.heap B q1 ht (Or.inl rfl) (g := mkF m pc Ls (.null :: .int j :: .ref a :: st)) rfl rfl (hb P.code hd)
  rw [q5] at W X'
  exact (E T' h' (P.to X' (Fr.snoc X' N ha) e') W).via kk
theorem newRA {index : Nat} {C ad : String} {ty : FieldType} {x : Int32} {cap : Nat} (P : Pos p l e R s m args below meth c Z own nm bytes maxL ret n0 T h cells slots) (hd : decode bytes pc = .ok (.anewarray index, 3)) (hC : (FieldType.array ty).toString = C) (had : "[" ++ C = ad) (w1 : (Cond.classLink own index C).before a0 Z = true) (w2 : (Cond.arrayOver (.array ty)).before a0 Z = true) (hx : x.toInt = k ∧ k ≤ cap) (hb' : cap * 8 ≤ 536870912) (hc : cells + 1 ≤ R.cells ∧ slots + cap ≤ R.slots) (hn : n = pc + 3)
    (E : ∀ T h' a, Pos p l e R s m args below meth c Z own nm bytes maxL ret n0 T h' (cells + 1) (slots + cap) → Ext h h' → a = h.size → n0 ≤ a → AR Z h' a (.array ty) k (fun _ => .null) → Ends p e below s R n0 Q T (mkF m n Ls (.ref a :: st))) : Ends p e below s R n0 Q T (mkF m pc Ls (.int x :: st)) := by
  subst hn; obtain ⟨_, X, N⟩ := P.stand
  have e0 : (0 : Int32).toInt = 0 := rfl
  have q1 : ¬ x < 0 := by rw [Int32.lt_iff_toInt_lt, e0]; omega
  have q2 : x.toNatClampNeg = k := by simp only [Int32.toNatClampNeg]; omega
  obtain ⟨T', h', cA, X', e', Ex, A, -, -, kk⟩ := Jvm.RoadKit.newRA X P.hx P.hZ P.own' hC w1 w2 P.heap (g := mkF m pc Ls (.int x :: st)) rfl (hb P.code hd) rfl q1 (cap := cap) (by omega) hb' hc.1 hc.2 had
  refine (E T' h' _ (P.to X' N e') Ex rfl P.low ⟨_, A, (sz_new _ _ _).trans q2, by have := rng32 x; omega, fun i hi => ?_⟩).via kk
  rw [← q2] at hi
  simp [newA, hi, defaultValue]
theorem aaloadA {j : Int32} {u : Nat} {g : Nat → Addr} {C : String} (P : Pos p l e R s m args below meth c Z own nm bytes maxL ret n0 T h cells slots) (hd : decode bytes pc = .ok (.aaload, 1)) (A : AR Z h a (.object C) k (fun i => .ref (g i))) (hj : j.toInt = u ∧ u < k) (hn : n = pc + 1) (E : Ends p e below s R n0 Q T (mkF m n Ls (.ref (g u) :: st))) : Ends p e below s R n0 Q T (mkF m pc Ls (.int j :: .ref a :: st)) := ldA P hd A (Or.inr (Or.inr (Or.inr (Or.inr ⟨rfl, rfl⟩)))) hj rfl hn E
/-! from the sheet's words -/
theorem eq_v {t : Term} {k : Int32} {idx : List Nat} (h : (Cond.eq t (.int k)).value args s none s idx = some true) : t.eval args s none idx s = some (.int k) := by
  cases hv : t.eval args s none idx s with
  | none => simp [Cond.value, hv] at h
  | some v => cases v <;> simp_all [Cond.value, Term.eval]
theorem ord_v {t : Term} {C nn d : String} {k : Int32} (ht : t.eval args s none [] s = some (.ref a)) (h : (Cond.eq (.field t C nn d) (.int k)).value args s none s [] = some true) : Fld s s.heap a C nn d (.int k) :=
  Fld.start ((fld_at (o := none) (args := args) (first := s) (idx := []) ht).symm.trans (eq_v h))
theorem fref_v {t u : Term} {C nn d : String} (ht : t.eval args s none [] s = some (.ref a)) (hu : u.eval args s none [] s = some (.ref b)) (h : (Cond.eq (.field t C nn d) u).value args s none s [] = some true) : Fld s s.heap a C nn d (.ref b) := by
  refine Fld.start ((fld_at (o := none) (args := args) (first := s) (idx := []) ht).symm.trans ?_)
  cases hv : (Term.field t C nn d).eval args s none [] s with
  | none => simp [Cond.value, hv] at h
  | some v => cases v <;> simp_all [Cond.value]
theorem AR.start {t : Term} {z : Int32} (ev : t.eval args s none [] s = some (.ref a)) (hx : (Cond.arrayOf t ty).value args s none s [] = some true) (hl : (Cond.eq (.length t) (.int z)).value args s none s [] = some true) (hz : z.toInt = k)
    (he : ∀ i, i < k → (Term.elem t (.int (Int32.ofNat i))).eval args s none [] s = some (f i)) : AR s s.heap a ty k f := by
  obtain ⟨cl, A⟩ := Arr.start ev hx
  have hA : s.arrayAt? a = some cl := A.fin (Vm.Alike.refl _)
  have hl2 := eq_v hl
  have hl3 : cl.slots.size < 2 ^ 31 ∧ cl.slots.size.toInt32 = z := by simpa [Term.eval, ev, hA] using hl2
  have hsz : cl.slots.size = k := by
    have := len_toInt hl3.1; rw [hl3.2, hz] at this; omega
  refine ⟨cl, A, hsz, by omega, fun i hi => ?_⟩
  have e2 := (elem_in (he i hi) ev (Term.int_eval _) A.1).2
  have e3 : (Int32.ofNat i).toNatClampNeg = i := by
    simp only [Int32.toNatClampNeg, Int32.toInt_ofNat_small (show i < 2 ^ 31 by omega)]; omega
  rw [e3] at e2; exact e2
/-! calls -/
theorem Meth.back {y : MethodName} {cb : ByteArray} {mL : Nat} {rt : Option FieldType} {rm : Room} {as : Array Value} {Qc : Option Value → Heap → Prop} {W : Nat} (hM : Meth l Z y cb mL rt rm as h n0 Qc) (hZ : Z.Warmed39 s.vm) (wc : (Cond.code y cb mL rt).before a0 Z = true) (wz : (Cond.initialized y.cls).before a0 Z = true) (hf : rm.frames + 1 ≤ R.frames) (hl : W + (mL + 11) + rm.locals ≤ R.locals) :
    Back l R p e below s args y 3 W (fun A a => a = as ∧ A.U.heap = h ∧ A.cells + rm.cells ≤ R.cells ∧ A.slots + rm.slots ≤ R.slots) (fun A _ v B => ∃ L, (Qc v B.U.heap ∧ Fr n0 L) ∧ B.locs = A.locs ++ L ∧ B.cells = A.cells + rm.cells ∧ B.slots = A.slots + rm.slots) :=
  backOf (Q := fun v h' L => Qc v h' ∧ Fr n0 L) (hM []) hZ wc wz hf hl
theorem callS {index : Nat} {y : MethodName} {cb : ByteArray} {mL : Nat} {rt : Option FieldType} {rm : Room} {argsL rest stk : List Value} {ps : List FieldType} {r : Option FieldType} {Qc : Option Value → Heap → Prop} (P : Pos p l e R s m args below meth c Z own nm bytes maxL ret n0 T h cells slots) (hd : decode bytes pc = .ok (.invokestatic index, 3))
    (hM : Meth l Z y cb mL rt rm argsL.toArray h n0 Qc) (w1 : (Cond.methodLink own index y).before a0 Z = true) (w2 : (Cond.static y).before a0 Z = true) (w3 : (Cond.initialized y.cls).before a0 Z = true) (w4 : (Cond.code y cb mL rt).before a0 Z = true) (hy : y.cls ≠ "java/lang/invoke/MethodHandle" ∧ y.cls ≠ "java/lang/invoke/VarHandle")
    (hp : parseMethodDescriptor y.desc = some ⟨ps, r⟩) (hl : argsL.length = ps.length) (hst : stk = argsL.reverse ++ rest) (hsz : Ls.size = maxL) (hr : rm.frames + 1 ≤ R.frames ∧ (rest.map fun v => v.category).sum + (mL + 11) + rm.locals ≤ R.locals ∧ cells + rm.cells ≤ R.cells ∧ slots + rm.slots ≤ R.slots) (hn : n = pc + 3)
    (E : ∀ T h' v, Pos p l e R s m args below meth c Z own nm bytes maxL ret n0 T h' (cells + rm.cells) (slots + rm.slots) → Qc v h' → Ends p e below s R n0 Q T (mkF m n Ls (v.toList ++ rest))) : Ends p e below s R n0 Q T (mkF m pc Ls stk) := by
  subst hn hst; obtain ⟨locs, X, N⟩ := P.stand
  obtain ⟨v, _, ⟨T', L', k', n'⟩, -, X', ⟨Lc, hQ, e1, e2, e3⟩, kk⟩ := Jvm.LawKit.callS X P.hx (y := y) P.own' (mvT P.hZ w1) (mvT P.hZ w2) (mvT P.hZ w3) (mvT P.hZ w4) hy (hM.back (W := (rest.map fun v => v.category).sum) P.hZ w4 w3 hr.1 hr.2.1) (g := mkF m pc Ls (argsL.reverse ++ rest)) rfl (hsz.trans P.maxl.symm) (argsL := argsL) (rest := rest) (lenOf hp hl) rfl (by show 2 * 0 + _ ≤ _; omega) (hb P.code hd) (fun _ _ => ⟨rfl, P.heap, hr.2.2.1, hr.2.2.2⟩)
  dsimp only [Pt.U, Pt.locs, Pt.cells, Pt.slots] at X' e1 e2 e3 kk hQ
  subst e1 e2 e3
  exact (E T' T'.heap v (P.to X' (Fr.app N hQ.2) rfl) hQ.1).via kk
theorem callN {a : Addr} {index : Nat} {y : MethodName} {cb : ByteArray} {mL : Nat} {rm : Room} {argsL rest stk : List Value} {ps : List FieldType} {r : Option FieldType} {Qc : Option Value → Heap → Prop} (P : Pos p l e R s m args below meth c Z own nm bytes maxL ret n0 T h cells slots) (hd : decode bytes pc = .ok (.invokespecial index, 3))
    (hM : Meth l Z y cb mL none rm (.ref a :: argsL).toArray h n0 Qc) (hy1 : y.name = "<init>") (w1 : (Cond.methodLink own index y).before a0 Z = true) (w2 : (Cond.instanceMethod y).before a0 Z = true) (w3 : (Cond.initialized y.cls).before a0 Z = true) (w4 : (Cond.code y cb mL none).before a0 Z = true) (hy : y.cls ≠ "java/lang/invoke/MethodHandle" ∧ y.cls ≠ "java/lang/invoke/VarHandle")
    (hp : parseMethodDescriptor y.desc = some ⟨ps, r⟩) (hl : argsL.length = ps.length) (hst : stk = argsL.reverse ++ .ref a :: rest) (hsz : Ls.size = maxL) (hr : rm.frames + 1 ≤ R.frames ∧ (rest.map fun v => v.category).sum + (mL + 11) + rm.locals ≤ R.locals ∧ cells + rm.cells ≤ R.cells ∧ slots + rm.slots ≤ R.slots) (hn : n = pc + 3)
    (E : ∀ T h' v, Pos p l e R s m args below meth c Z own nm bytes maxL ret n0 T h' (cells + rm.cells) (slots + rm.slots) → Qc v h' → Ends p e below s R n0 Q T (mkF m n Ls (v.toList ++ rest))) : Ends p e below s R n0 Q T (mkF m pc Ls stk) := by
  subst hn hst; obtain ⟨locs, X, N⟩ := P.stand
  obtain ⟨v, _, ⟨T', L', k', n'⟩, -, X', ⟨Lc, hQ, e1, e2, e3⟩, kk⟩ := X.specialBack P.hx (y := y) hy1 P.own' (mvT P.hZ w1) (mvT P.hZ w2) (mvT P.hZ w4) hy (hM.back (W := (rest.map fun v => v.category).sum) P.hZ w4 w3 hr.1 hr.2.1) (g := mkF m pc Ls (argsL.reverse ++ .ref a :: rest)) rfl (hsz.trans P.maxl.symm) (Steps.refl _) (a := a) (argsL := argsL) (rest := rest) (lenOf hp hl) rfl (by show 2 * 0 + _ ≤ _; omega) (hb P.code hd) (fun _ _ => ⟨rfl, P.heap, hr.2.2.1, hr.2.2.2⟩)
  dsimp only [Pt.U, Pt.locs, Pt.cells, Pt.slots] at X' e1 e2 e3 kk hQ
  subst e1 e2 e3
  exact (E T' T'.heap v (P.to X' (Fr.app N hQ.2) rfl) hQ.1).via fun t k => kk.trans k
theorem callV {a : Addr} {C : String} {z : MethodName} {index : Nat} {y : MethodName} {cb : ByteArray} {mL : Nat} {rt : Option FieldType} {rm : Room} {argsL rest stk : List Value} {ps : List FieldType} {r : Option FieldType} {Qc : Option Value → Heap → Prop} (P : Pos p l e R s m args below meth c Z own nm bytes maxL ret n0 T h cells slots) (hd : decode bytes pc = .ok (.invokevirtual index, 3))
    (hM : Meth l Z z cb mL rt rm (.ref a :: argsL).toArray h n0 Qc) (X0 : Exa Z h a C) (w1 : (Cond.methodLink own index y).before a0 Z = true) (w2 : (Cond.declares y).before a0 Z = true) (nf : NotFace s y) (ws : (Cond.selects C y z).before a0 Z = true) (wi : (Cond.instanceMethod z).before a0 Z = true) (w3 : (Cond.initialized z.cls).before a0 Z = true) (w4 : (Cond.code z cb mL rt).before a0 Z = true) (hy : y.cls ≠ "java/lang/invoke/MethodHandle" ∧ y.cls ≠ "java/lang/invoke/VarHandle")
    (hp : parseMethodDescriptor y.desc = some ⟨ps, r⟩) (hl : argsL.length = ps.length) (hst : stk = argsL.reverse ++ .ref a :: rest) (hsz : Ls.size = maxL) (hr : rm.frames + 1 ≤ R.frames ∧ (rest.map fun v => v.category).sum + (mL + 11) + rm.locals ≤ R.locals ∧ cells + rm.cells ≤ R.cells ∧ slots + rm.slots ≤ R.slots) (hn : n = pc + 3)
    (E : ∀ T h' v, Pos p l e R s m args below meth c Z own nm bytes maxL ret n0 T h' (cells + rm.cells) (slots + rm.slots) → Qc v h' → Ends p e below s R n0 Q T (mkF m n Ls (v.toList ++ rest))) : Ends p e below s R n0 Q T (mkF m pc Ls stk) := by
  subst hn hst; obtain ⟨locs, X, N⟩ := P.stand
  obtain ⟨cq, kq, q1, q2, q3⟩ := isOf P.hZ P.heap X0
  obtain ⟨v, _, ⟨T', L', k', n'⟩, -, X', ⟨Lc, hQ, e1, e2, e3⟩, kk⟩ := X.virtualBack P.hx (y := y) (z := z) P.own' (mvT P.hZ w1) (mvT P.hZ w2) nf (mvT P.hZ ws) (mvT P.hZ wi) hy (hM.back (W := (rest.map fun v => v.category).sum) P.hZ w4 w3 hr.1 hr.2.1) q1 q3 (g := mkF m pc Ls (argsL.reverse ++ .ref a :: rest)) rfl (hsz.trans P.maxl.symm) (Steps.refl _) (argsL := argsL) (rest := rest) (lenOf hp hl) rfl (by show 2 * 0 + _ ≤ _; omega) (hb P.code hd) (fun _ _ => ⟨rfl, P.heap, hr.2.2.1, hr.2.2.2⟩)
  dsimp only [Pt.U, Pt.locs, Pt.cells, Pt.slots] at X' e1 e2 e3 kk hQ
  subst e1 e2 e3
  exact (E T' T'.heap v (P.to X' (Fr.app N hQ.2) rfl) hQ.1).via fun t k => kk.trans k
theorem callP {a : Addr} {C : String} {kk : Nat} {index : Nat} {y : MethodName} {cb : ByteArray} {mL : Nat} {rt : Option FieldType} {rm : Room} {argsL rest stk : List Value} {ps : List FieldType} {r : Option FieldType} {Qc : Option Value → Heap → Prop} (P : Pos p l e R s m args below meth c Z own nm bytes maxL ret n0 T h cells slots) (hd : decode bytes pc = .ok (.invokevirtual index, 3))
    (hM : Meth l Z y cb mL rt rm (.ref a :: argsL).toArray h n0 Qc) (X0 : Exa Z h a C) (w1 : (Cond.methodLink own index y).before a0 Z = true) (wi : (Cond.instanceMethod y).before a0 Z = true) (wn : (Cond.instantiable y.cls kk).before a0 Z = true) (wp : (Cond.privateMethod y).before a0 Z = true) (w3 : (Cond.initialized y.cls).before a0 Z = true) (w4 : (Cond.code y cb mL rt).before a0 Z = true) (hy : y.cls ≠ "java/lang/invoke/MethodHandle" ∧ y.cls ≠ "java/lang/invoke/VarHandle")
    (hp : parseMethodDescriptor y.desc = some ⟨ps, r⟩) (hl : argsL.length = ps.length) (hst : stk = argsL.reverse ++ .ref a :: rest) (hsz : Ls.size = maxL) (hr : rm.frames + 1 ≤ R.frames ∧ (rest.map fun v => v.category).sum + (mL + 11) + rm.locals ≤ R.locals ∧ cells + rm.cells ≤ R.cells ∧ slots + rm.slots ≤ R.slots) (hn : n = pc + 3)
    (E : ∀ T h' v, Pos p l e R s m args below meth c Z own nm bytes maxL ret n0 T h' (cells + rm.cells) (slots + rm.slots) → Qc v h' → Ends p e below s R n0 Q T (mkF m n Ls (v.toList ++ rest))) : Ends p e below s R n0 Q T (mkF m pc Ls stk) := by
  subst hn hst; obtain ⟨locs, X, N⟩ := P.stand
  obtain ⟨cq, q1, q2⟩ := X0.cell
  have wi' : (Cond.instanceMethod y).before args s = true := mvT P.hZ wi
  have pv : s.PrivateAt y := Cond.privateMethod_at (mvP P.hZ wp (args := #[]))
  obtain ⟨c0, k0, hc0, hk0, -, hfl, -⟩ := Cond.instantiable_spec (mvT P.hZ wn (args := args))
  have ws : (Cond.selects y.cls y y).before args s = true := selects_self_of_private hc0 hk0 (by simp_all) pv wi' hy
  obtain ⟨v, _, ⟨T', L', k', n'⟩, -, X', ⟨Lc, hQ, e1, e2, e3⟩, kk⟩ := X.privateBack P.hx (y := y) P.own' (mvT P.hZ w1) wi' ws pv (mvT P.hZ w4) hy (hM.back (W := (rest.map fun v => v.category).sum) P.hZ w4 w3 hr.1 hr.2.1) (g := mkF m pc Ls (argsL.reverse ++ .ref a :: rest)) rfl (hsz.trans P.maxl.symm) (Steps.refl _) (a := a) (by rw [P.heap]; exact q1) q2 (argsL := argsL) (rest := rest) (lenOf hp hl) rfl (by show 2 * 0 + _ ≤ _; omega) (hb P.code hd) (fun _ _ => ⟨rfl, P.heap, hr.2.2.1, hr.2.2.2⟩)
  dsimp only [Pt.U, Pt.locs, Pt.cells, Pt.slots] at X' e1 e2 e3 kk hQ
  subst e1 e2 e3
  exact (E T' T'.heap v (P.to X' (Fr.app N hQ.2) rfl) hQ.1).via fun t k => kk.trans k
/-- a constructor's call paid by a given Back -/
theorem callNB {a : Addr} {index : Nat} {y : MethodName} {cb : ByteArray} {mL : Nat} {argsL rest stk : List Value} {ps : List FieldType} {r : Option FieldType} {kc ks : Nat} {QQ : Option Value → Heap → List Loc → Prop} (P : Pos p l e R s m args below meth c Z own nm bytes maxL ret n0 T h cells slots) (hd : decode bytes pc = .ok (.invokespecial index, 3))
    (hB : Back l R p e below s args y 3 (rest.map fun v => v.category).sum (fun A a' => a' = (.ref a :: argsL).toArray ∧ A.U.heap = h ∧ A.cells + kc ≤ R.cells ∧ A.slots + ks ≤ R.slots) (fun A _ v B => ∃ L, QQ v B.U.heap L ∧ B.locs = A.locs ++ L ∧ B.cells = A.cells + kc ∧ B.slots = A.slots + ks))
    (hQF : ∀ v h' L, QQ v h' L → Fr n0 L) (hy1 : y.name = "<init>") (w1 : (Cond.methodLink own index y).before a0 Z = true) (w2 : (Cond.instanceMethod y).before a0 Z = true) (w4 : (Cond.code y cb mL none).before a0 Z = true) (hy : y.cls ≠ "java/lang/invoke/MethodHandle" ∧ y.cls ≠ "java/lang/invoke/VarHandle")
    (hp : parseMethodDescriptor y.desc = some ⟨ps, r⟩) (hl : argsL.length = ps.length) (hst : stk = argsL.reverse ++ .ref a :: rest) (hsz : Ls.size = maxL) (hr : cells + kc ≤ R.cells ∧ slots + ks ≤ R.slots) (hn : n = pc + 3)
    (E : ∀ T h' v L, Pos p l e R s m args below meth c Z own nm bytes maxL ret n0 T h' (cells + kc) (slots + ks) → QQ v h' L → Ends p e below s R n0 Q T (mkF m n Ls (v.toList ++ rest))) : Ends p e below s R n0 Q T (mkF m pc Ls stk) := by
  subst hn hst; obtain ⟨locs, X, N⟩ := P.stand
  obtain ⟨v, _, ⟨T', L', k', n'⟩, -, X', ⟨Lc, hQ, e1, e2, e3⟩, kk⟩ := X.specialBack P.hx (y := y) hy1 P.own' (mvT P.hZ w1) (mvT P.hZ w2) (mvT P.hZ w4) hy hB (g := mkF m pc Ls (argsL.reverse ++ .ref a :: rest)) rfl (hsz.trans P.maxl.symm) (Steps.refl _) (a := a) (argsL := argsL) (rest := rest) (lenOf hp hl) rfl (by show 2 * 0 + _ ≤ _; omega) (hb P.code hd) (fun _ _ => ⟨rfl, P.heap, hr.1, hr.2⟩)
  dsimp only [Pt.U, Pt.locs, Pt.cells, Pt.slots] at X' e1 e2 e3 kk hQ
  subst e1 e2 e3
  exact (E T' T'.heap v Lc (P.to X' (Fr.app N (hQF _ _ _ hQ)) rfl) hQ).via fun t k => kk.trans k
/-- returns v and leaves the heap as it was -/
def Ret (v : Value) (h : Heap) : Option Value → Heap → Prop := fun w h' => w = some v ∧ h' = h
theorem Ret.ofI {x y : Int32} (q : x = y) : Ret (.int y) h (some (.int x)) h := ⟨by rw [q], rfl⟩
theorem Ret.ofL {x y : Int64} (q : x = y) : Ret (.long y) h (some (.long x)) h := ⟨by rw [q], rfl⟩
theorem Ret.ofA {x y : Value} (q : x = y) : Ret y h (some x) h := ⟨by rw [q], rfl⟩
/-- the continuation behind a call that only returns -/
theorem Ret.on {v : Value} {cells' slots' : Nat} {rest : List Value} (E : ∀ T, Pos p l e R s m args below meth c Z own nm bytes maxL ret n0 T h cells' slots' → Ends p e below s R n0 Q T (mkF m n Ls (v :: rest))) :
    ∀ T h' w, Pos p l e R s m args below meth c Z own nm bytes maxL ret n0 T h' cells' slots' → Ret v h w h' → Ends p e below s R n0 Q T (mkF m n Ls (w.toList ++ rest)) := by
  rintro T h' w P ⟨rfl, rfl⟩; exact E T P

/-- returns nothing and leaves the heap as it was -/
def RetV (h : Heap) : Option Value → Heap → Prop := fun w h' => w = none ∧ h' = h
theorem RetV.mk : RetV h none h := ⟨rfl, rfl⟩
theorem RetV.on {cells' slots' : Nat} {rest : List Value} (E : ∀ T, Pos p l e R s m args below meth c Z own nm bytes maxL ret n0 T h cells' slots' → Ends p e below s R n0 Q T (mkF m n Ls rest)) :
    ∀ T h' w, Pos p l e R s m args below meth c Z own nm bytes maxL ret n0 T h' cells' slots' → RetV h w h' → Ends p e below s R n0 Q T (mkF m n Ls (w.toList ++ rest)) := by
  rintro T h' w P ⟨rfl, rfl⟩; exact E T P
/-- returns an int (a long) of which F holds, and leaves the heap as it was -/
def RetI (F : Int32 → Prop) (h : Heap) : Option Value → Heap → Prop := fun w h' => ∃ z, w = some (.int z) ∧ F z ∧ h' = h
def RetJ (F : Int64 → Prop) (h : Heap) : Option Value → Heap → Prop := fun w h' => ∃ z, w = some (.long z) ∧ F z ∧ h' = h
theorem RetI.mk {F : Int32 → Prop} {x : Int32} (q : F x) : RetI F h (some (.int x)) h := ⟨x, rfl, q, rfl⟩
theorem RetJ.mk {F : Int64 → Prop} {x : Int64} (q : F x) : RetJ F h (some (.long x)) h := ⟨x, rfl, q, rfl⟩
theorem RetI.on {F : Int32 → Prop} {cells' slots' : Nat} {rest : List Value} (E : ∀ T z, Pos p l e R s m args below meth c Z own nm bytes maxL ret n0 T h cells' slots' → F z → Ends p e below s R n0 Q T (mkF m n Ls (.int z :: rest))) :
    ∀ T h' w, Pos p l e R s m args below meth c Z own nm bytes maxL ret n0 T h' cells' slots' → RetI F h w h' → Ends p e below s R n0 Q T (mkF m n Ls (w.toList ++ rest)) := by
  rintro T h' w P ⟨z, rfl, q, rfl⟩; exact E T z P q
theorem RetJ.on {F : Int64 → Prop} {cells' slots' : Nat} {rest : List Value} (E : ∀ T z, Pos p l e R s m args below meth c Z own nm bytes maxL ret n0 T h cells' slots' → F z → Ends p e below s R n0 Q T (mkF m n Ls (.long z :: rest))) :
    ∀ T h' w, Pos p l e R s m args below meth c Z own nm bytes maxL ret n0 T h' cells' slots' → RetJ F h w h' → Ends p e below s R n0 Q T (mkF m n Ls (w.toList ++ rest)) := by
  rintro T h' w P ⟨z, rfl, q, rfl⟩; exact E T z P q
end Core
/-! numbers: what an operation is worth where nothing wraps -/
section Num
theorem n_iadd {x y z : Int32} {X Y : Int} (hz : z = x + y) (hx : x.toInt = X) (hy : y.toInt = Y) (b : -2147483648 ≤ X + Y ∧ X + Y ≤ 2147483647) : z.toInt = X + Y := by
  subst hz hx hy; have := c_iadd x y; have := rng32 (x + y); omega
theorem n_isub {x y z : Int32} {X Y : Int} (hz : z = x - y) (hx : x.toInt = X) (hy : y.toInt = Y) (b : -2147483648 ≤ X - Y ∧ X - Y ≤ 2147483647) : z.toInt = X - Y := by
  subst hz hx hy; have := c_isub x y; have := rng32 (x - y); omega
theorem n_imul {x y z : Int32} {X Y : Int} (hz : z = x * y) (hx : x.toInt = X) (hy : y.toInt = Y) (b : -2147483648 ≤ X * Y ∧ X * Y ≤ 2147483647) : z.toInt = X * Y := by
  subst hz hx hy; have h1 := c_imul x y; have := rng32 (x * y); generalize x.toInt * y.toInt = w at *; omega
theorem n_ladd {x y z : Int64} {X Y : Int} (hz : z = x + y) (hx : x.toInt = X) (hy : y.toInt = Y) (b : -9223372036854775808 ≤ X + Y ∧ X + Y ≤ 9223372036854775807) : z.toInt = X + Y := by
  subst hz hx hy; have := c_ladd x y; have := rng64 (x + y); omega
theorem n_lsub {x y z : Int64} {X Y : Int} (hz : z = x - y) (hx : x.toInt = X) (hy : y.toInt = Y) (b : -9223372036854775808 ≤ X - Y ∧ X - Y ≤ 9223372036854775807) : z.toInt = X - Y := by
  subst hz hx hy; have := c_lsub x y; have := rng64 (x - y); omega
theorem n_lmul {x y z : Int64} {X Y : Int} (hz : z = x * y) (hx : x.toInt = X) (hy : y.toInt = Y) (b : -9223372036854775808 ≤ X * Y ∧ X * Y ≤ 9223372036854775807) : z.toInt = X * Y := by
  subst hz hx hy; have h1 := c_lmul x y; have := rng64 (x * y); generalize x.toInt * y.toInt = w at *; omega
theorem n_i2l {x : Int32} {z : Int64} {X : Int} (hz : z = x.toInt64) (hx : x.toInt = X) : z.toInt = X := by subst hz hx; exact c_i2l x
theorem n_irem {x y z : Int32} {X Y : Int} (hz : z = x % y) (hx : x.toInt = X) (hy : y.toInt = Y) (b : 0 ≤ X) : z.toInt = X % Y := by
  subst hz hx; exact (c_irem x y Y hy).1 b
theorem n_idiv {x y z : Int32} {X Y : Int} (hz : z = x / y) (hx : x.toInt = X) (hy : y.toInt = Y) (b : 0 ≤ X ∧ 0 < Y) : z.toInt = X / Y := by
  subst hz hx; exact (c_idiv x y Y hy (fun q => by subst q; have : (-1 : Int32).toInt = -1 := rfl; omega)).1 b.1
theorem n_ldiv {x y z : Int64} {X Y : Int} (hz : z = x / y) (hx : x.toInt = X) (hy : y.toInt = Y) (b : 0 ≤ X ∧ 0 < Y) : z.toInt = X / Y := by
  subst hz hx; exact (c_ldiv x y Y hy (fun q => by subst q; have : (-1 : Int64).toInt = -1 := rfl; omega)).1 b.1
theorem n_mask {x m z : Int32} {X : Int} (k : Nat) (hz : z = x &&& m) (hx : x.toInt = X) (hk : k ≤ 31 ∧ m.toBitVec.toNat = 2 ^ k - 1) : z.toInt = X % (2 ^ k : Nat) := by subst hz hx; exact c_mask x m k hk.1 hk.2
theorem n_maskL {x m z : Int64} {X : Int} (k : Nat) (hz : z = x &&& m) (hx : x.toInt = X) (hk : k ≤ 63 ∧ m.toBitVec.toNat = 2 ^ k - 1) : z.toInt = X % (2 ^ k : Nat) := by subst hz hx; exact c_maskL x m k hk.1 hk.2
theorem n_iushr {x q z : Int32} {X : Int} (k : Nat) (hz : z = (x.toUInt32 >>> (q &&& 31).toUInt32).toInt32) (hx : x.toInt = X) (hk : q.toBitVec.toNat % 32 = k ∧ 0 < k) : z.toInt = (X % 4294967296) / (2 ^ k : Nat) := by subst hz hx; exact c_iushr x q k hk.1 hk.2
theorem n_ishr {x q z : Int32} {X : Int} (k : Nat) (hz : z = x >>> (q &&& 31)) (hx : x.toInt = X) (hk : q.toBitVec.toNat % 32 = k) : z.toInt = X / (2 ^ k : Nat) := by subst hz hx; exact c_ishr x q k hk
theorem n_iremV {x y z : Int32} (hz : z = x % y) (hx : 0 ≤ x.toInt) (hy : 0 < y.toInt) : 0 ≤ z.toInt ∧ z.toInt < y.toInt := by
  subst hz; have := (c_iremV x y).1 hx hy; omega
theorem nzI {y : Int32} (h : ¬ y.toInt = 0) : y ≠ 0 := fun q => h (by rw [q]; rfl)
theorem nzL {y : Int64} (h : ¬ y.toInt = 0) : y ≠ 0 := fun q => h (by rw [q]; rfl)
theorem b8 (x : Int32) : x.toInt8.toInt32.toInt8.toInt32 = x.toInt8.toInt32 := by simp
theorem eqI {x y : Int32} (h : x.toInt = y.toInt) : x = y := Int32.toInt_inj.mp h
theorem eqL {x y : Int64} (h : x.toInt = y.toInt) : x = y := Int64.toInt_inj.mp h
theorem ofI {x : Int32} {X : Int} (h : x.toInt = X) : x = Int32.ofInt X := by rw [← h]; exact (Int32.ofInt_toInt x).symm
theorem ofL {x : Int64} {X : Int} (h : x.toInt = X) : x = Int64.ofInt X := by rw [← h]; exact (Int64.ofInt_toInt x).symm
end Num
end Jvm.Own
namespace Jvm.Pilot.@@N@@
open Jvm Jvm.ClassFile Sem Op Lib Jvm.Free Jvm.Stand Jvm.LawKit Jvm.RoadKit Bundle Jvm.Pilot.@@N@@.Jvm.D
open Jvm.Own
def own_OS (Z : State) (n0 : Nat) (h : Heap) (a : Addr) (un us : Int32) (ge gl : Nat → Int32) : Prop := ∃ (y0 y1 y2 y3 y4 y5 y6 y7 y8 y9 y10 y11 : Addr) (g0 : Nat → Int64) (g1 : Nat → Int32) (g2 : Nat → Int64) (g3 : Nat → Int32) (g4 : Nat → Int64) (g5 : Nat → Int32) (g6 : Nat → Int64) (g7 : Nat → Int32) (g8 : Nat → Value) (g9 : Nat → Int32), Exa Z h a "com/example/sessionloom/sessionloom/OpenSessions" ∧ Fld Z h a "com/example/sessionloom/sessionloom/OpenSessions" "unused" "I" (.int un) ∧ Fld Z h a "com/example/sessionloom/sessionloom/OpenSessions" "used" "I" (.int us) ∧ Fld Z h a "com/example/sessionloom/sessionloom/OpenSessions" "ids" "[J" (.ref y0) ∧ Fld Z h a "com/example/sessionloom/sessionloom/OpenSessions" "ordinals" "[I" (.ref y1) ∧ Fld Z h a "com/example/sessionloom/sessionloom/OpenSessions" "firstSeconds" "[J" (.ref y2) ∧ Fld Z h a "com/example/sessionloom/sessionloom/OpenSessions" "firstNanos" "[I" (.ref y3) ∧ Fld Z h a "com/example/sessionloom/sessionloom/OpenSessions" "lastSeconds" "[J" (.ref y4) ∧ Fld Z h a "com/example/sessionloom/sessionloom/OpenSessions" "lastNanos" "[I" (.ref y5) ∧ Fld Z h a "com/example/sessionloom/sessionloom/OpenSessions" "records" "[J" (.ref y6) ∧ Fld Z h a "com/example/sessionloom/sessionloom/OpenSessions" "entities" "[I" (.ref y7) ∧ Fld Z h a "com/example/sessionloom/sessionloom/OpenSessions" "others" "[[I" (.ref y8) ∧ Fld Z h a "com/example/sessionloom/sessionloom/OpenSessions" "otherCounts" "[I" (.ref y9) ∧ Fld Z h a "com/example/sessionloom/sessionloom/OpenSessions" "earlier" "[I" (.ref y10) ∧ Fld Z h a "com/example/sessionloom/sessionloom/OpenSessions" "later" "[I" (.ref y11) ∧ ARJ Z h y0 1024 g0 ∧ ARI Z h y1 .int 1024 g1 ∧ ARJ Z h y2 1024 g2 ∧ ARI Z h y3 .int 1024 g3 ∧ ARJ Z h y4 1024 g4 ∧ ARI Z h y5 .int 1024 g5 ∧ ARJ Z h y6 1024 g6 ∧ ARI Z h y7 .int 1024 g7 ∧ AR Z h y8 (.array .int) 1024 g8 ∧ ARI Z h y9 .int 1024 g9 ∧ ARI Z h y10 .int 1024 ge ∧ ARI Z h y11 .int 1024 gl ∧ n0 ≤ a ∧ @LT.lt Nat _ a y0 ∧ @LT.lt Nat _ y0 y1 ∧ @LT.lt Nat _ y1 y2 ∧ @LT.lt Nat _ y2 y3 ∧ @LT.lt Nat _ y3 y4 ∧ @LT.lt Nat _ y4 y5 ∧ @LT.lt Nat _ y5 y6 ∧ @LT.lt Nat _ y6 y7 ∧ @LT.lt Nat _ y7 y8 ∧ @LT.lt Nat _ y8 y9 ∧ @LT.lt Nat _ y9 y10 ∧ @LT.lt Nat _ y10 y11
theorem d7_0 : decode prog_16_method_4_code 0 = .ok (.aload_n 0, 1) := by decide +kernel
theorem d7_1 : decode prog_16_method_4_code 1 = .ok (.getfield 46, 3) := by decide +kernel
theorem d7_4 : decode prog_16_method_4_code 4 = .ok (.iconst 0, 1) := by decide +kernel
theorem d7_5 : decode prog_16_method_4_code 5 = .ok (.iaload, 1) := by decide +kernel
theorem d7_6 : decode prog_16_method_4_code 6 = .ok (.ireturn, 1) := by decide +kernel
theorem ef_7 (m : MethodId) (a : Addr) : entryFrame m #[(.ref a)] 1 = mkF m 0 #[.val (.ref a)] [] := by first | (simp [entryFrame, mkF, argsToLocals, Value.category]; done) | rfl
theorem pn_0 : plainName "com/example/sessionloom/sessionloom/OpenSessions" = true := by first | (simp [plainName, overriddenIn]; done) | decide +kernel
abbrev rm_c_first : Room := { frames := 0, cells := 0, slots := 0, locals := 0 }
set_option maxRecDepth 65536 in
set_option maxHeartbeats 40000000 in
theorem c_first (l : Launch) (Z : State) (a0 : Array Value) (hw : ∀ d ∈ tables_1, d.before a0 Z = true) (a : Addr) (un us : Int32) (ge gl : Nat → Int32) (h0 : Heap) (n0 : Nat) (low : n0 ≤ h0.size) (O : own_OS Z n0 h0 a un us ge gl) :
    Meth l Z (⟨"com/example/sessionloom/sessionloom/OpenSessions", "first", "()I"⟩ : MethodName) prog_16_method_4_code 1 (some .int) rm_c_first #[(.ref a)] h0 n0 (Ret (.int (gl 0)) h0) := by
  refine Meth.of (plainFor_of_name pn_0) low ?_
  intro p e s m args below meth c T P
  refine Ends.cast (ef_7 m a) ?_
  obtain ⟨y0, y1, y2, y3, y4, y5, y6, y7, y8, y9, y10, y11, g0, g1, g2, g3, g4, g5, g6, g7, g8, g9, E_a, F_un, F_us, F_0, F_1, F_2, F_3, F_4, F_5, F_6, F_7, F_8, F_9, F_10, F_11, A_0, A_1, A_2, A_3, A_4, A_5, A_6, A_7, A_8, A_9, A_10, A_11, lo_a, c0, c1, c2, c3, c4, c5, c6, c7, c8, c9, c10, c11⟩ := O
  refine aloadN P d7_0 rfl rfl (n := 1) rfl ?_
  refine getF P d7_1 (hw _ (List.mem_of_getElem? (i := 36) rfl)) F_11 (n := 4) rfl ?_
  intro T P
  refine iconst P d7_4 (x := (0 : Int32)) rfl (n := 5) rfl ?_
  refine ialoadI P d7_5 A_11 (u := 0) ⟨rfl, by decide⟩ (n := 6) rfl ?_
  refine retI P d7_6 (by decide) (by decide) ?_
  exact Ret.ofI rfl
theorem d8_0 : decode prog_16_method_5_code 0 = .ok (.aload_n 0, 1) := by decide +kernel
theorem d8_1 : decode prog_16_method_5_code 1 = .ok (.getfield 46, 3) := by decide +kernel
theorem d8_4 : decode prog_16_method_5_code 4 = .ok (.iload_n 1, 1) := by decide +kernel
theorem d8_5 : decode prog_16_method_5_code 5 = .ok (.iaload, 1) := by decide +kernel
theorem d8_6 : decode prog_16_method_5_code 6 = .ok (.ireturn, 1) := by decide +kernel
theorem ef_8 (m : MethodId) (a : Addr) (u : Int32) : entryFrame m #[(.ref a), (.int u)] 2 = mkF m 0 #[.val (.ref a), .val (.int u)] [] := by first | (simp [entryFrame, mkF, argsToLocals, Value.category]; done) | rfl
abbrev rm_c_after : Room := { frames := 0, cells := 0, slots := 0, locals := 0 }
set_option maxRecDepth 65536 in
set_option maxHeartbeats 40000000 in
theorem c_after (l : Launch) (Z : State) (a0 : Array Value) (hw : ∀ d ∈ tables_1, d.before a0 Z = true) (a : Addr) (u : Int32) (un us : Int32) (ge gl : Nat → Int32) (h0 : Heap) (n0 : Nat) (low : n0 ≤ h0.size) (O : own_OS Z n0 h0 a un us ge gl) (hu : 0 ≤ u.toInt ∧ u.toInt < 1024) :
    Meth l Z (⟨"com/example/sessionloom/sessionloom/OpenSessions", "after", "(I)I"⟩ : MethodName) prog_16_method_5_code 2 (some .int) rm_c_after #[(.ref a), (.int u)] h0 n0 (Ret (.int (gl u.toInt.toNat)) h0) := by
  refine Meth.of (plainFor_of_name pn_0) low ?_
  intro p e s m args below meth c T P
  refine Ends.cast (ef_8 m a u) ?_
  obtain ⟨y0, y1, y2, y3, y4, y5, y6, y7, y8, y9, y10, y11, g0, g1, g2, g3, g4, g5, g6, g7, g8, g9, E_a, F_un, F_us, F_0, F_1, F_2, F_3, F_4, F_5, F_6, F_7, F_8, F_9, F_10, F_11, A_0, A_1, A_2, A_3, A_4, A_5, A_6, A_7, A_8, A_9, A_10, A_11, lo_a, c0, c1, c2, c3, c4, c5, c6, c7, c8, c9, c10, c11⟩ := O
  refine aloadN P d8_0 rfl rfl (n := 1) rfl ?_
  refine getF P d8_1 (hw _ (List.mem_of_getElem? (i := 36) rfl)) F_11 (n := 4) rfl ?_
  intro T P
  refine iloadN P d8_4 rfl (n := 5) rfl ?_
  refine ialoadI P d8_5 A_11 (u := u.toInt.toNat) ⟨by omega, by omega⟩ (n := 6) rfl ?_
  refine retI P d8_6 (by decide) (by decide) ?_
  exact Ret.ofI rfl
theorem d4_0 : decode prog_16_method_17_code 0 = .ok (.aload_n 0, 1) := by decide +kernel
theorem d4_1 : decode prog_16_method_17_code 1 = .ok (.getfield 43, 3) := by decide +kernel
theorem d4_4 : decode prog_16_method_17_code 4 = .ok (.iconst 0, 1) := by decide +kernel
theorem d4_5 : decode prog_16_method_17_code 5 = .ok (.iaload, 1) := by decide +kernel
theorem d4_6 : decode prog_16_method_17_code 6 = .ok (.istore_n 2, 1) := by decide +kernel
theorem d4_7 : decode prog_16_method_17_code 7 = .ok (.aload_n 0, 1) := by decide +kernel
theorem d4_8 : decode prog_16_method_17_code 8 = .ok (.getfield 43, 3) := by decide +kernel
theorem d4_11 : decode prog_16_method_17_code 11 = .ok (.iload_n 1, 1) := by decide +kernel
theorem d4_12 : decode prog_16_method_17_code 12 = .ok (.iload_n 2, 1) := by decide +kernel
theorem d4_13 : decode prog_16_method_17_code 13 = .ok (.iastore, 1) := by decide +kernel
theorem d4_14 : decode prog_16_method_17_code 14 = .ok (.aload_n 0, 1) := by decide +kernel
theorem d4_15 : decode prog_16_method_17_code 15 = .ok (.getfield 46, 3) := by decide +kernel
theorem d4_18 : decode prog_16_method_17_code 18 = .ok (.iload_n 1, 1) := by decide +kernel
theorem d4_19 : decode prog_16_method_17_code 19 = .ok (.iconst 0, 1) := by decide +kernel
theorem d4_20 : decode prog_16_method_17_code 20 = .ok (.iastore, 1) := by decide +kernel
theorem d4_21 : decode prog_16_method_17_code 21 = .ok (.aload_n 0, 1) := by decide +kernel
theorem d4_22 : decode prog_16_method_17_code 22 = .ok (.getfield 46, 3) := by decide +kernel
theorem d4_25 : decode prog_16_method_17_code 25 = .ok (.iload_n 2, 1) := by decide +kernel
theorem d4_26 : decode prog_16_method_17_code 26 = .ok (.iload_n 1, 1) := by decide +kernel
theorem d4_27 : decode prog_16_method_17_code 27 = .ok (.iastore, 1) := by decide +kernel
theorem d4_28 : decode prog_16_method_17_code 28 = .ok (.aload_n 0, 1) := by decide +kernel
theorem d4_29 : decode prog_16_method_17_code 29 = .ok (.getfield 43, 3) := by decide +kernel
theorem d4_32 : decode prog_16_method_17_code 32 = .ok (.iconst 0, 1) := by decide +kernel
theorem d4_33 : decode prog_16_method_17_code 33 = .ok (.iload_n 1, 1) := by decide +kernel
theorem d4_34 : decode prog_16_method_17_code 34 = .ok (.iastore, 1) := by decide +kernel
theorem d4_35 : decode prog_16_method_17_code 35 = .ok (.return_, 1) := by decide +kernel
theorem ef_4 (m : MethodId) (a : Addr) (u : Int32) : entryFrame m #[(.ref a), (.int u)] 3 = mkF m 0 #[.val (.ref a), .val (.int u), .unset] [] := by first | (simp [entryFrame, mkF, argsToLocals, Value.category]; done) | rfl
abbrev rm_c_queue : Room := { frames := 0, cells := 0, slots := 0, locals := 0 }
set_option maxRecDepth 65536 in
set_option maxHeartbeats 40000000 in
theorem c_queue (l : Launch) (Z : State) (a0 : Array Value) (hw : ∀ d ∈ tables_1, d.before a0 Z = true) (a : Addr) (u : Int32) (un us : Int32) (ge gl : Nat → Int32) (h0 : Heap) (n0 : Nat) (low : n0 ≤ h0.size) (O : own_OS Z n0 h0 a un us ge gl) (hu : 0 ≤ u.toInt ∧ u.toInt < 1024) (he : 0 ≤ (ge 0).toInt ∧ (ge 0).toInt < 1024) :
    Meth l Z (⟨"com/example/sessionloom/sessionloom/OpenSessions", "queueLast", "(I)V"⟩ : MethodName) prog_16_method_17_code 3 none rm_c_queue #[(.ref a), (.int u)] h0 n0 (fun v h => v = none ∧ own_OS Z n0 h a un us (ovr (ovr ge u.toInt.toNat (ge 0)) 0 u) (ovr (ovr gl u.toInt.toNat 0) (ge 0).toInt.toNat u)) := by
  refine Meth.of (plainFor_of_name pn_0) low ?_
  intro p e s m args below meth c T P
  refine Ends.cast (ef_4 m a u) ?_
  obtain ⟨y0, y1, y2, y3, y4, y5, y6, y7, y8, y9, y10, y11, g0, g1, g2, g3, g4, g5, g6, g7, g8, g9, E_a, F_un, F_us, F_0, F_1, F_2, F_3, F_4, F_5, F_6, F_7, F_8, F_9, F_10, F_11, A_0, A_1, A_2, A_3, A_4, A_5, A_6, A_7, A_8, A_9, A_10, A_11, lo_a, c0, c1, c2, c3, c4, c5, c6, c7, c8, c9, c10, c11⟩ := O
  refine aloadN P d4_0 rfl rfl (n := 1) rfl ?_
  refine getF P d4_1 (hw _ (List.mem_of_getElem? (i := 34) rfl)) F_10 (n := 4) rfl ?_
  intro T P
  refine iconst P d4_4 (x := (0 : Int32)) rfl (n := 5) rfl ?_
  refine ialoadI P d4_5 A_10 (u := 0) ⟨rfl, by decide⟩ (n := 6) rfl ?_
  refine istoreN P d4_6 (l' := #[.val (.ref a), .val (.int u), .val (.int (ge 0))]) rfl (n := 7) rfl ?_
  refine aloadN P d4_7 rfl rfl (n := 8) rfl ?_
  refine getF P d4_8 (hw _ (List.mem_of_getElem? (i := 34) rfl)) F_10 (n := 11) rfl ?_
  intro T P
  refine iloadN P d4_11 rfl (n := 12) rfl ?_
  refine iloadN P d4_12 rfl (n := 13) rfl ?_
  refine stI P d4_13 A_10 (u := u.toInt.toNat) ⟨by omega, by omega⟩ (by omega) (n := 14) rfl ?_
  intro T h1 P W2
  replace E_a := Exa.wr W2 E_a
  replace F_un := Fld.other W2 F_un (Or.inl (Nat.ne_of_lt (by omega)))
  replace F_us := Fld.other W2 F_us (Or.inl (Nat.ne_of_lt (by omega)))
  replace F_0 := Fld.other W2 F_0 (Or.inl (Nat.ne_of_lt (by omega)))
  replace A_0 := A_0.other W2 (Nat.ne_of_lt (by omega))
  replace F_1 := Fld.other W2 F_1 (Or.inl (Nat.ne_of_lt (by omega)))
  replace A_1 := A_1.other W2 (Nat.ne_of_lt (by omega))
  replace F_2 := Fld.other W2 F_2 (Or.inl (Nat.ne_of_lt (by omega)))
  replace A_2 := A_2.other W2 (Nat.ne_of_lt (by omega))
  replace F_3 := Fld.other W2 F_3 (Or.inl (Nat.ne_of_lt (by omega)))
  replace A_3 := A_3.other W2 (Nat.ne_of_lt (by omega))
  replace F_4 := Fld.other W2 F_4 (Or.inl (Nat.ne_of_lt (by omega)))
  replace A_4 := A_4.other W2 (Nat.ne_of_lt (by omega))
  replace F_5 := Fld.other W2 F_5 (Or.inl (Nat.ne_of_lt (by omega)))
  replace A_5 := A_5.other W2 (Nat.ne_of_lt (by omega))
  replace F_6 := Fld.other W2 F_6 (Or.inl (Nat.ne_of_lt (by omega)))
  replace A_6 := A_6.other W2 (Nat.ne_of_lt (by omega))
  replace F_7 := Fld.other W2 F_7 (Or.inl (Nat.ne_of_lt (by omega)))
  replace A_7 := A_7.other W2 (Nat.ne_of_lt (by omega))
  replace F_8 := Fld.other W2 F_8 (Or.inl (Nat.ne_of_lt (by omega)))
  replace A_8 := A_8.other W2 (Nat.ne_of_lt (by omega))
  replace F_9 := Fld.other W2 F_9 (Or.inl (Nat.ne_of_lt (by omega)))
  replace A_9 := A_9.other W2 (Nat.ne_of_lt (by omega))
  replace F_10 := Fld.other W2 F_10 (Or.inl (Nat.ne_of_lt (by omega)))
  replace F_11 := Fld.other W2 F_11 (Or.inl (Nat.ne_of_lt (by omega)))
  replace A_11 := A_11.other W2 (Ne.symm (Nat.ne_of_lt (by omega)))
  replace A_10 := ARI.set A_10 W2
  refine aloadN P d4_14 rfl rfl (n := 15) rfl ?_
  refine getF P d4_15 (hw _ (List.mem_of_getElem? (i := 36) rfl)) F_11 (n := 18) rfl ?_
  intro T P
  refine iloadN P d4_18 rfl (n := 19) rfl ?_
  refine iconst P d4_19 (x := (0 : Int32)) rfl (n := 20) rfl ?_
  refine stI P d4_20 A_11 (u := u.toInt.toNat) ⟨by omega, by omega⟩ (by omega) (n := 21) rfl ?_
  intro T h3 P W4
  replace E_a := Exa.wr W4 E_a
  replace F_un := Fld.other W4 F_un (Or.inl (Nat.ne_of_lt (by omega)))
  replace F_us := Fld.other W4 F_us (Or.inl (Nat.ne_of_lt (by omega)))
  replace F_0 := Fld.other W4 F_0 (Or.inl (Nat.ne_of_lt (by omega)))
  replace A_0 := A_0.other W4 (Nat.ne_of_lt (by omega))
  replace F_1 := Fld.other W4 F_1 (Or.inl (Nat.ne_of_lt (by omega)))
  replace A_1 := A_1.other W4 (Nat.ne_of_lt (by omega))
  replace F_2 := Fld.other W4 F_2 (Or.inl (Nat.ne_of_lt (by omega)))
  replace A_2 := A_2.other W4 (Nat.ne_of_lt (by omega))
  replace F_3 := Fld.other W4 F_3 (Or.inl (Nat.ne_of_lt (by omega)))
  replace A_3 := A_3.other W4 (Nat.ne_of_lt (by omega))
  replace F_4 := Fld.other W4 F_4 (Or.inl (Nat.ne_of_lt (by omega)))
  replace A_4 := A_4.other W4 (Nat.ne_of_lt (by omega))
  replace F_5 := Fld.other W4 F_5 (Or.inl (Nat.ne_of_lt (by omega)))
  replace A_5 := A_5.other W4 (Nat.ne_of_lt (by omega))
  replace F_6 := Fld.other W4 F_6 (Or.inl (Nat.ne_of_lt (by omega)))
  replace A_6 := A_6.other W4 (Nat.ne_of_lt (by omega))
  replace F_7 := Fld.other W4 F_7 (Or.inl (Nat.ne_of_lt (by omega)))
  replace A_7 := A_7.other W4 (Nat.ne_of_lt (by omega))
  replace F_8 := Fld.other W4 F_8 (Or.inl (Nat.ne_of_lt (by omega)))
  replace A_8 := A_8.other W4 (Nat.ne_of_lt (by omega))
  replace F_9 := Fld.other W4 F_9 (Or.inl (Nat.ne_of_lt (by omega)))
  replace A_9 := A_9.other W4 (Nat.ne_of_lt (by omega))
  replace F_10 := Fld.other W4 F_10 (Or.inl (Nat.ne_of_lt (by omega)))
  replace A_10 := A_10.other W4 (Nat.ne_of_lt (by omega))
  replace F_11 := Fld.other W4 F_11 (Or.inl (Nat.ne_of_lt (by omega)))
  replace A_11 := ARI.set A_11 W4
  refine aloadN P d4_21 rfl rfl (n := 22) rfl ?_
  refine getF P d4_22 (hw _ (List.mem_of_getElem? (i := 36) rfl)) F_11 (n := 25) rfl ?_
  intro T P
  refine iloadN P d4_25 rfl (n := 26) rfl ?_
  refine iloadN P d4_26 rfl (n := 27) rfl ?_
  refine stI P d4_27 A_11 (u := (ge 0).toInt.toNat) ⟨by omega, by omega⟩ (by omega) (n := 28) rfl ?_
  intro T h5 P W6
  replace E_a := Exa.wr W6 E_a
  replace F_un := Fld.other W6 F_un (Or.inl (Nat.ne_of_lt (by omega)))
  replace F_us := Fld.other W6 F_us (Or.inl (Nat.ne_of_lt (by omega)))
  replace F_0 := Fld.other W6 F_0 (Or.inl (Nat.ne_of_lt (by omega)))
  replace A_0 := A_0.other W6 (Nat.ne_of_lt (by omega))
  replace F_1 := Fld.other W6 F_1 (Or.inl (Nat.ne_of_lt (by omega)))
  replace A_1 := A_1.other W6 (Nat.ne_of_lt (by omega))
  replace F_2 := Fld.other W6 F_2 (Or.inl (Nat.ne_of_lt (by omega)))
  replace A_2 := A_2.other W6 (Nat.ne_of_lt (by omega))
  replace F_3 := Fld.other W6 F_3 (Or.inl (Nat.ne_of_lt (by omega)))
  replace A_3 := A_3.other W6 (Nat.ne_of_lt (by omega))
  replace F_4 := Fld.other W6 F_4 (Or.inl (Nat.ne_of_lt (by omega)))
  replace A_4 := A_4.other W6 (Nat.ne_of_lt (by omega))
  replace F_5 := Fld.other W6 F_5 (Or.inl (Nat.ne_of_lt (by omega)))
  replace A_5 := A_5.other W6 (Nat.ne_of_lt (by omega))
  replace F_6 := Fld.other W6 F_6 (Or.inl (Nat.ne_of_lt (by omega)))
  replace A_6 := A_6.other W6 (Nat.ne_of_lt (by omega))
  replace F_7 := Fld.other W6 F_7 (Or.inl (Nat.ne_of_lt (by omega)))
  replace A_7 := A_7.other W6 (Nat.ne_of_lt (by omega))
  replace F_8 := Fld.other W6 F_8 (Or.inl (Nat.ne_of_lt (by omega)))
  replace A_8 := A_8.other W6 (Nat.ne_of_lt (by omega))
  replace F_9 := Fld.other W6 F_9 (Or.inl (Nat.ne_of_lt (by omega)))
  replace A_9 := A_9.other W6 (Nat.ne_of_lt (by omega))
  replace F_10 := Fld.other W6 F_10 (Or.inl (Nat.ne_of_lt (by omega)))
  replace A_10 := A_10.other W6 (Nat.ne_of_lt (by omega))
  replace F_11 := Fld.other W6 F_11 (Or.inl (Nat.ne_of_lt (by omega)))
  replace A_11 := ARI.set A_11 W6
  refine aloadN P d4_28 rfl rfl (n := 29) rfl ?_
  refine getF P d4_29 (hw _ (List.mem_of_getElem? (i := 34) rfl)) F_10 (n := 32) rfl ?_
  intro T P
  refine iconst P d4_32 (x := (0 : Int32)) rfl (n := 33) rfl ?_
  refine iloadN P d4_33 rfl (n := 34) rfl ?_
  refine stI P d4_34 A_10 (u := 0) ⟨rfl, by decide⟩ (by omega) (n := 35) rfl ?_
  intro T h7 P W8
  replace E_a := Exa.wr W8 E_a
  replace F_un := Fld.other W8 F_un (Or.inl (Nat.ne_of_lt (by omega)))
  replace F_us := Fld.other W8 F_us (Or.inl (Nat.ne_of_lt (by omega)))
  replace F_0 := Fld.other W8 F_0 (Or.inl (Nat.ne_of_lt (by omega)))
  replace A_0 := A_0.other W8 (Nat.ne_of_lt (by omega))
  replace F_1 := Fld.other W8 F_1 (Or.inl (Nat.ne_of_lt (by omega)))
  replace A_1 := A_1.other W8 (Nat.ne_of_lt (by omega))
  replace F_2 := Fld.other W8 F_2 (Or.inl (Nat.ne_of_lt (by omega)))
  replace A_2 := A_2.other W8 (Nat.ne_of_lt (by omega))
  replace F_3 := Fld.other W8 F_3 (Or.inl (Nat.ne_of_lt (by omega)))
  replace A_3 := A_3.other W8 (Nat.ne_of_lt (by omega))
  replace F_4 := Fld.other W8 F_4 (Or.inl (Nat.ne_of_lt (by omega)))
  replace A_4 := A_4.other W8 (Nat.ne_of_lt (by omega))
  replace F_5 := Fld.other W8 F_5 (Or.inl (Nat.ne_of_lt (by omega)))
  replace A_5 := A_5.other W8 (Nat.ne_of_lt (by omega))
  replace F_6 := Fld.other W8 F_6 (Or.inl (Nat.ne_of_lt (by omega)))
  replace A_6 := A_6.other W8 (Nat.ne_of_lt (by omega))
  replace F_7 := Fld.other W8 F_7 (Or.inl (Nat.ne_of_lt (by omega)))
  replace A_7 := A_7.other W8 (Nat.ne_of_lt (by omega))
  replace F_8 := Fld.other W8 F_8 (Or.inl (Nat.ne_of_lt (by omega)))
  replace A_8 := A_8.other W8 (Nat.ne_of_lt (by omega))
  replace F_9 := Fld.other W8 F_9 (Or.inl (Nat.ne_of_lt (by omega)))
  replace A_9 := A_9.other W8 (Nat.ne_of_lt (by omega))
  replace F_10 := Fld.other W8 F_10 (Or.inl (Nat.ne_of_lt (by omega)))
  replace F_11 := Fld.other W8 F_11 (Or.inl (Nat.ne_of_lt (by omega)))
  replace A_11 := A_11.other W8 (Ne.symm (Nat.ne_of_lt (by omega)))
  replace A_10 := ARI.set A_10 W8
  refine retV P d4_35 (by decide) (by decide) ?_
  exact ⟨rfl, ⟨_, _, _, _, _, _, _, _, _, _, _, _, _, _, _, _, _, _, _, _, _, _, E_a, F_un, F_us, F_0, F_1, F_2, F_3, F_4, F_5, F_6, F_7, F_8, F_9, F_10, F_11, A_0, A_1, A_2, A_3, A_4, A_5, A_6, A_7, A_8, A_9, A_10, A_11, lo_a, c0, c1, c2, c3, c4, c5, c6, c7, c8, c9, c10, c11⟩⟩
theorem d3_0 : decode prog_16_method_2_code 0 = .ok (.aload_n 0, 1) := by decide +kernel
theorem d3_1 : decode prog_16_method_2_code 1 = .ok (.getfield 49, 3) := by decide +kernel
theorem d3_4 : decode prog_16_method_2_code 4 = .ok (.ifCond .ne 35, 3) := by decide +kernel
theorem d3_7 : decode prog_16_method_2_code 7 = .ok (.aload_n 0, 1) := by decide +kernel
theorem d3_8 : decode prog_16_method_2_code 8 = .ok (.getfield 53, 3) := by decide +kernel
theorem d3_11 : decode prog_16_method_2_code 11 = .ok (.aload_n 0, 1) := by decide +kernel
theorem d3_12 : decode prog_16_method_2_code 12 = .ok (.getfield 9, 3) := by decide +kernel
theorem d3_15 : decode prog_16_method_2_code 15 = .ok (.arraylength, 1) := by decide +kernel
theorem d3_16 : decode prog_16_method_2_code 16 = .ok (.if_icmp .ne 7, 3) := by decide +kernel
theorem d3_19 : decode prog_16_method_2_code 19 = .ok (.aload_n 0, 1) := by decide +kernel
theorem d3_20 : decode prog_16_method_2_code 20 = .ok (.invokevirtual 56, 3) := by decide +kernel
theorem d3_23 : decode prog_16_method_2_code 23 = .ok (.aload_n 0, 1) := by decide +kernel
theorem d3_24 : decode prog_16_method_2_code 24 = .ok (.dup, 1) := by decide +kernel
theorem d3_25 : decode prog_16_method_2_code 25 = .ok (.getfield 53, 3) := by decide +kernel
theorem d3_28 : decode prog_16_method_2_code 28 = .ok (.dup_x1, 1) := by decide +kernel
theorem d3_29 : decode prog_16_method_2_code 29 = .ok (.iconst 1, 1) := by decide +kernel
theorem d3_30 : decode prog_16_method_2_code 30 = .ok (.iadd, 1) := by decide +kernel
theorem d3_31 : decode prog_16_method_2_code 31 = .ok (.putfield 53, 3) := by decide +kernel
theorem d3_34 : decode prog_16_method_2_code 34 = .ok (.istore 8, 2) := by decide +kernel
theorem d3_36 : decode prog_16_method_2_code 36 = .ok (.goto 20, 3) := by decide +kernel
theorem d3_39 : decode prog_16_method_2_code 39 = .ok (.aload_n 0, 1) := by decide +kernel
theorem d3_40 : decode prog_16_method_2_code 40 = .ok (.getfield 49, 3) := by decide +kernel
theorem d3_43 : decode prog_16_method_2_code 43 = .ok (.istore 8, 2) := by decide +kernel
theorem d3_45 : decode prog_16_method_2_code 45 = .ok (.aload_n 0, 1) := by decide +kernel
theorem d3_46 : decode prog_16_method_2_code 46 = .ok (.aload_n 0, 1) := by decide +kernel
theorem d3_47 : decode prog_16_method_2_code 47 = .ok (.getfield 46, 3) := by decide +kernel
theorem d3_50 : decode prog_16_method_2_code 50 = .ok (.iload 8, 2) := by decide +kernel
theorem d3_52 : decode prog_16_method_2_code 52 = .ok (.iaload, 1) := by decide +kernel
theorem d3_53 : decode prog_16_method_2_code 53 = .ok (.putfield 49, 3) := by decide +kernel
theorem d3_56 : decode prog_16_method_2_code 56 = .ok (.aload_n 0, 1) := by decide +kernel
theorem d3_57 : decode prog_16_method_2_code 57 = .ok (.getfield 9, 3) := by decide +kernel
theorem d3_60 : decode prog_16_method_2_code 60 = .ok (.iload 8, 2) := by decide +kernel
theorem d3_62 : decode prog_16_method_2_code 62 = .ok (.lload_n 1, 1) := by decide +kernel
theorem d3_63 : decode prog_16_method_2_code 63 = .ok (.lastore, 1) := by decide +kernel
theorem d3_64 : decode prog_16_method_2_code 64 = .ok (.aload_n 0, 1) := by decide +kernel
theorem d3_65 : decode prog_16_method_2_code 65 = .ok (.getfield 13, 3) := by decide +kernel
theorem d3_68 : decode prog_16_method_2_code 68 = .ok (.iload 8, 2) := by decide +kernel
theorem d3_70 : decode prog_16_method_2_code 70 = .ok (.iload_n 3, 1) := by decide +kernel
theorem d3_71 : decode prog_16_method_2_code 71 = .ok (.iastore, 1) := by decide +kernel
theorem d3_72 : decode prog_16_method_2_code 72 = .ok (.aload_n 0, 1) := by decide +kernel
theorem d3_73 : decode prog_16_method_2_code 73 = .ok (.getfield 17, 3) := by decide +kernel
theorem d3_76 : decode prog_16_method_2_code 76 = .ok (.iload 8, 2) := by decide +kernel
theorem d3_78 : decode prog_16_method_2_code 78 = .ok (.lload 4, 2) := by decide +kernel
theorem d3_80 : decode prog_16_method_2_code 80 = .ok (.lastore, 1) := by decide +kernel
theorem d3_81 : decode prog_16_method_2_code 81 = .ok (.aload_n 0, 1) := by decide +kernel
theorem d3_82 : decode prog_16_method_2_code 82 = .ok (.getfield 20, 3) := by decide +kernel
theorem d3_85 : decode prog_16_method_2_code 85 = .ok (.iload 8, 2) := by decide +kernel
theorem d3_87 : decode prog_16_method_2_code 87 = .ok (.iload 6, 2) := by decide +kernel
theorem d3_89 : decode prog_16_method_2_code 89 = .ok (.iastore, 1) := by decide +kernel
theorem d3_90 : decode prog_16_method_2_code 90 = .ok (.aload_n 0, 1) := by decide +kernel
theorem d3_91 : decode prog_16_method_2_code 91 = .ok (.getfield 23, 3) := by decide +kernel
theorem d3_94 : decode prog_16_method_2_code 94 = .ok (.iload 8, 2) := by decide +kernel
theorem d3_96 : decode prog_16_method_2_code 96 = .ok (.lload 4, 2) := by decide +kernel
theorem d3_98 : decode prog_16_method_2_code 98 = .ok (.lastore, 1) := by decide +kernel
theorem d3_99 : decode prog_16_method_2_code 99 = .ok (.aload_n 0, 1) := by decide +kernel
theorem d3_100 : decode prog_16_method_2_code 100 = .ok (.getfield 26, 3) := by decide +kernel
theorem d3_103 : decode prog_16_method_2_code 103 = .ok (.iload 8, 2) := by decide +kernel
theorem d3_105 : decode prog_16_method_2_code 105 = .ok (.iload 6, 2) := by decide +kernel
theorem d3_107 : decode prog_16_method_2_code 107 = .ok (.iastore, 1) := by decide +kernel
theorem d3_108 : decode prog_16_method_2_code 108 = .ok (.aload_n 0, 1) := by decide +kernel
theorem d3_109 : decode prog_16_method_2_code 109 = .ok (.getfield 29, 3) := by decide +kernel
theorem d3_112 : decode prog_16_method_2_code 112 = .ok (.iload 8, 2) := by decide +kernel
theorem d3_114 : decode prog_16_method_2_code 114 = .ok (.lconst 1, 1) := by decide +kernel
theorem d3_115 : decode prog_16_method_2_code 115 = .ok (.lastore, 1) := by decide +kernel
theorem d3_116 : decode prog_16_method_2_code 116 = .ok (.aload_n 0, 1) := by decide +kernel
theorem d3_117 : decode prog_16_method_2_code 117 = .ok (.getfield 32, 3) := by decide +kernel
theorem d3_120 : decode prog_16_method_2_code 120 = .ok (.iload 8, 2) := by decide +kernel
theorem d3_122 : decode prog_16_method_2_code 122 = .ok (.iload 7, 2) := by decide +kernel
theorem d3_124 : decode prog_16_method_2_code 124 = .ok (.iastore, 1) := by decide +kernel
theorem d3_125 : decode prog_16_method_2_code 125 = .ok (.aload_n 0, 1) := by decide +kernel
theorem d3_126 : decode prog_16_method_2_code 126 = .ok (.getfield 40, 3) := by decide +kernel
theorem d3_129 : decode prog_16_method_2_code 129 = .ok (.iload 8, 2) := by decide +kernel
theorem d3_131 : decode prog_16_method_2_code 131 = .ok (.iconst 0, 1) := by decide +kernel
theorem d3_132 : decode prog_16_method_2_code 132 = .ok (.iastore, 1) := by decide +kernel
theorem d3_133 : decode prog_16_method_2_code 133 = .ok (.aload_n 0, 1) := by decide +kernel
theorem d3_134 : decode prog_16_method_2_code 134 = .ok (.iload 8, 2) := by decide +kernel
theorem d3_136 : decode prog_16_method_2_code 136 = .ok (.invokevirtual 59, 3) := by decide +kernel
theorem d3_139 : decode prog_16_method_2_code 139 = .ok (.iload 8, 2) := by decide +kernel
theorem d3_141 : decode prog_16_method_2_code 141 = .ok (.ireturn, 1) := by decide +kernel
theorem ef_3 (m : MethodId) (a : Addr) (p1 : Int64) (p2 : Int32) (p3 : Int64) (p4 : Int32) (p5 : Int32) : entryFrame m #[(.ref a), (.long p1), (.int p2), (.long p3), (.int p4), (.int p5)] 9 = mkF m 0 #[.val (.ref a), .val (.long p1), .second, .val (.int p2), .val (.long p3), .second, .val (.int p4), .val (.int p5), .unset] [] := by first | (simp [entryFrame, mkF, argsToLocals, Value.category]; done) | rfl
theorem pd_0 : parseMethodDescriptor "(I)V" = some ⟨[.int], none⟩ := by decide +kernel
abbrev rm_c_open : Room := { frames := 1, cells := 0, slots := 0, locals := 14 }
set_option maxRecDepth 65536 in
set_option maxHeartbeats 40000000 in
theorem c_open (l : Launch) (Z : State) (a0 : Array Value) (hw : ∀ d ∈ tables_1, d.before a0 Z = true) (a : Addr) (p1 : Int64) (p2 : Int32) (p3 : Int64) (p4 : Int32) (p5 : Int32) (un us : Int32) (ge gl : Nat → Int32) (h0 : Heap) (n0 : Nat) (low : n0 ≤ h0.size) (O : own_OS Z n0 h0 a un us ge gl) (hus : 0 < us.toInt ∧ us.toInt < 1023) (hun : 0 ≤ un.toInt ∧ un.toInt < 1024) (he : 0 ≤ (ge 0).toInt ∧ (ge 0).toInt < 1024) :
    Meth l Z (⟨"com/example/sessionloom/sessionloom/OpenSessions", "open", "(JIJII)I"⟩ : MethodName) prog_16_method_2_code 9 (some .int) rm_c_open #[(.ref a), (.long p1), (.int p2), (.long p3), (.int p4), (.int p5)] h0 n0 (fun v h => (un.toInt = 0 → v = some (.int us) ∧ own_OS Z n0 h a un (us + 1) (ovr (ovr ge us.toInt.toNat (ge 0)) 0 us) (ovr (ovr gl us.toInt.toNat 0) (ge 0).toInt.toNat us)) ∧ (¬ un.toInt = 0 → v = some (.int un) ∧ own_OS Z n0 h a (gl un.toInt.toNat) us (ovr (ovr ge un.toInt.toNat (ge 0)) 0 un) (ovr (ovr gl un.toInt.toNat 0) (ge 0).toInt.toNat un))) := by
  refine Meth.of (plainFor_of_name pn_0) low ?_
  intro p e s m args below meth c T P
  refine Ends.cast (ef_3 m a p1 p2 p3 p4 p5) ?_
  obtain ⟨y0, y1, y2, y3, y4, y5, y6, y7, y8, y9, y10, y11, g0, g1, g2, g3, g4, g5, g6, g7, g8, g9, E_a, F_un, F_us, F_0, F_1, F_2, F_3, F_4, F_5, F_6, F_7, F_8, F_9, F_10, F_11, A_0, A_1, A_2, A_3, A_4, A_5, A_6, A_7, A_8, A_9, A_10, A_11, lo_a, c0, c1, c2, c3, c4, c5, c6, c7, c8, c9, c10, c11⟩ := O
  refine aloadN P d3_0 rfl rfl (n := 1) rfl ?_
  refine getF P d3_1 (hw _ (List.mem_of_getElem? (i := 38) rfl)) F_un (n := 4) rfl ?_
  intro T P
  refine if0_ne P d3_4 (n' := 39) (n := 7) (by decide) rfl (fun hc4 => ?_) (fun hc4 => ?_)
  · -- pc 4 taken
    replace hc4 : ¬ un.toInt = (0 : Int) := hc4
    refine aloadN P d3_39 rfl rfl (n := 40) rfl ?_
    refine getF P d3_40 (hw _ (List.mem_of_getElem? (i := 38) rfl)) F_un (n := 43) rfl ?_
    intro T P
    refine istore P d3_43 (l' := #[.val (.ref a), .val (.long p1), .second, .val (.int p2), .val (.long p3), .second, .val (.int p4), .val (.int p5), .val (.int un)]) rfl (n := 45) rfl ?_
    refine aloadN P d3_45 rfl rfl (n := 46) rfl ?_
    refine aloadN P d3_46 rfl rfl (n := 47) rfl ?_
    refine getF P d3_47 (hw _ (List.mem_of_getElem? (i := 36) rfl)) F_11 (n := 50) rfl ?_
    intro T P
    refine iload P d3_50 rfl (n := 52) rfl ?_
    refine ialoadI P d3_52 A_11 (u := un.toInt.toNat) ⟨by omega, by omega⟩ (n := 53) rfl ?_
    refine putF P d3_53 (hw _ (List.mem_of_getElem? (i := 38) rfl)) F_un E_a (Or.inl (hw _ (List.mem_of_getElem? (i := 39) rfl))) (hw _ (List.mem_of_getElem? (i := 2) rfl)) (ty := .int) (by decide) rfl rfl lo_a (n := 56) rfl ?_
    intro T h1 P W2
    replace E_a := Exa.wr W2 E_a
    replace F_us := Fld.other W2 F_us (Or.inr (slot_ne (Or.inl (hw _ (List.mem_of_getElem? (i := 41) rfl))) (Or.inl (hw _ (List.mem_of_getElem? (i := 39) rfl))) (by decide) (t := .int) (t' := .int) (by decide) (by decide)))
    replace F_0 := Fld.other W2 F_0 (Or.inr (slot_ne (Or.inl (hw _ (List.mem_of_getElem? (i := 12) rfl))) (Or.inl (hw _ (List.mem_of_getElem? (i := 39) rfl))) (by decide) (t := (.array .long)) (t' := .int) (by decide) (by decide)))
    replace A_0 := A_0.other W2 (Ne.symm (Nat.ne_of_lt (by omega)))
    replace F_1 := Fld.other W2 F_1 (Or.inr (slot_ne (Or.inl (hw _ (List.mem_of_getElem? (i := 15) rfl))) (Or.inl (hw _ (List.mem_of_getElem? (i := 39) rfl))) (by decide) (t := (.array .int)) (t' := .int) (by decide) (by decide)))
    replace A_1 := A_1.other W2 (Ne.symm (Nat.ne_of_lt (by omega)))
    replace F_2 := Fld.other W2 F_2 (Or.inr (slot_ne (Or.inl (hw _ (List.mem_of_getElem? (i := 17) rfl))) (Or.inl (hw _ (List.mem_of_getElem? (i := 39) rfl))) (by decide) (t := (.array .long)) (t' := .int) (by decide) (by decide)))
    replace A_2 := A_2.other W2 (Ne.symm (Nat.ne_of_lt (by omega)))
    replace F_3 := Fld.other W2 F_3 (Or.inr (slot_ne (Or.inl (hw _ (List.mem_of_getElem? (i := 19) rfl))) (Or.inl (hw _ (List.mem_of_getElem? (i := 39) rfl))) (by decide) (t := (.array .int)) (t' := .int) (by decide) (by decide)))
    replace A_3 := A_3.other W2 (Ne.symm (Nat.ne_of_lt (by omega)))
    replace F_4 := Fld.other W2 F_4 (Or.inr (slot_ne (Or.inl (hw _ (List.mem_of_getElem? (i := 21) rfl))) (Or.inl (hw _ (List.mem_of_getElem? (i := 39) rfl))) (by decide) (t := (.array .long)) (t' := .int) (by decide) (by decide)))
    replace A_4 := A_4.other W2 (Ne.symm (Nat.ne_of_lt (by omega)))
    replace F_5 := Fld.other W2 F_5 (Or.inr (slot_ne (Or.inl (hw _ (List.mem_of_getElem? (i := 23) rfl))) (Or.inl (hw _ (List.mem_of_getElem? (i := 39) rfl))) (by decide) (t := (.array .int)) (t' := .int) (by decide) (by decide)))
    replace A_5 := A_5.other W2 (Ne.symm (Nat.ne_of_lt (by omega)))
    replace F_6 := Fld.other W2 F_6 (Or.inr (slot_ne (Or.inl (hw _ (List.mem_of_getElem? (i := 25) rfl))) (Or.inl (hw _ (List.mem_of_getElem? (i := 39) rfl))) (by decide) (t := (.array .long)) (t' := .int) (by decide) (by decide)))
    replace A_6 := A_6.other W2 (Ne.symm (Nat.ne_of_lt (by omega)))
    replace F_7 := Fld.other W2 F_7 (Or.inr (slot_ne (Or.inl (hw _ (List.mem_of_getElem? (i := 27) rfl))) (Or.inl (hw _ (List.mem_of_getElem? (i := 39) rfl))) (by decide) (t := (.array .int)) (t' := .int) (by decide) (by decide)))
    replace A_7 := A_7.other W2 (Ne.symm (Nat.ne_of_lt (by omega)))
    replace F_8 := Fld.other W2 F_8 (Or.inr (slot_ne (Or.inl (hw _ (List.mem_of_getElem? (i := 31) rfl))) (Or.inl (hw _ (List.mem_of_getElem? (i := 39) rfl))) (by decide) (t := (.array (.array .int))) (t' := .int) (by decide) (by decide)))
    replace A_8 := A_8.other W2 (Ne.symm (Nat.ne_of_lt (by omega)))
    replace F_9 := Fld.other W2 F_9 (Or.inr (slot_ne (Or.inl (hw _ (List.mem_of_getElem? (i := 33) rfl))) (Or.inl (hw _ (List.mem_of_getElem? (i := 39) rfl))) (by decide) (t := (.array .int)) (t' := .int) (by decide) (by decide)))
    replace A_9 := A_9.other W2 (Ne.symm (Nat.ne_of_lt (by omega)))
    replace F_10 := Fld.other W2 F_10 (Or.inr (slot_ne (Or.inl (hw _ (List.mem_of_getElem? (i := 35) rfl))) (Or.inl (hw _ (List.mem_of_getElem? (i := 39) rfl))) (by decide) (t := (.array .int)) (t' := .int) (by decide) (by decide)))
    replace A_10 := A_10.other W2 (Ne.symm (Nat.ne_of_lt (by omega)))
    replace F_11 := Fld.other W2 F_11 (Or.inr (slot_ne (Or.inl (hw _ (List.mem_of_getElem? (i := 37) rfl))) (Or.inl (hw _ (List.mem_of_getElem? (i := 39) rfl))) (by decide) (t := (.array .int)) (t' := .int) (by decide) (by decide)))
    replace A_11 := A_11.other W2 (Ne.symm (Nat.ne_of_lt (by omega)))
    replace F_un := Fld.same W2 F_un
    refine aloadN P d3_56 rfl rfl (n := 57) rfl ?_
    refine getF P d3_57 (hw _ (List.mem_of_getElem? (i := 11) rfl)) F_0 (n := 60) rfl ?_
    intro T P
    refine iload P d3_60 rfl (n := 62) rfl ?_
    refine lloadN P d3_62 rfl (n := 63) rfl ?_
    refine stJ P d3_63 A_0 (u := un.toInt.toNat) ⟨by omega, by omega⟩ (by omega) (n := 64) rfl ?_
    intro T h3 P W4
    replace E_a := Exa.wr W4 E_a
    replace F_un := Fld.other W4 F_un (Or.inl (Nat.ne_of_lt (by omega)))
    replace F_us := Fld.other W4 F_us (Or.inl (Nat.ne_of_lt (by omega)))
    replace F_0 := Fld.other W4 F_0 (Or.inl (Nat.ne_of_lt (by omega)))
    replace F_1 := Fld.other W4 F_1 (Or.inl (Nat.ne_of_lt (by omega)))
    replace A_1 := A_1.other W4 (Ne.symm (Nat.ne_of_lt (by omega)))
    replace F_2 := Fld.other W4 F_2 (Or.inl (Nat.ne_of_lt (by omega)))
    replace A_2 := A_2.other W4 (Ne.symm (Nat.ne_of_lt (by omega)))
    replace F_3 := Fld.other W4 F_3 (Or.inl (Nat.ne_of_lt (by omega)))
    replace A_3 := A_3.other W4 (Ne.symm (Nat.ne_of_lt (by omega)))
    replace F_4 := Fld.other W4 F_4 (Or.inl (Nat.ne_of_lt (by omega)))
    replace A_4 := A_4.other W4 (Ne.symm (Nat.ne_of_lt (by omega)))
    replace F_5 := Fld.other W4 F_5 (Or.inl (Nat.ne_of_lt (by omega)))
    replace A_5 := A_5.other W4 (Ne.symm (Nat.ne_of_lt (by omega)))
    replace F_6 := Fld.other W4 F_6 (Or.inl (Nat.ne_of_lt (by omega)))
    replace A_6 := A_6.other W4 (Ne.symm (Nat.ne_of_lt (by omega)))
    replace F_7 := Fld.other W4 F_7 (Or.inl (Nat.ne_of_lt (by omega)))
    replace A_7 := A_7.other W4 (Ne.symm (Nat.ne_of_lt (by omega)))
    replace F_8 := Fld.other W4 F_8 (Or.inl (Nat.ne_of_lt (by omega)))
    replace A_8 := A_8.other W4 (Ne.symm (Nat.ne_of_lt (by omega)))
    replace F_9 := Fld.other W4 F_9 (Or.inl (Nat.ne_of_lt (by omega)))
    replace A_9 := A_9.other W4 (Ne.symm (Nat.ne_of_lt (by omega)))
    replace F_10 := Fld.other W4 F_10 (Or.inl (Nat.ne_of_lt (by omega)))
    replace A_10 := A_10.other W4 (Ne.symm (Nat.ne_of_lt (by omega)))
    replace F_11 := Fld.other W4 F_11 (Or.inl (Nat.ne_of_lt (by omega)))
    replace A_11 := A_11.other W4 (Ne.symm (Nat.ne_of_lt (by omega)))
    replace A_0 := ARJ.set A_0 W4
    refine aloadN P d3_64 rfl rfl (n := 65) rfl ?_
    refine getF P d3_65 (hw _ (List.mem_of_getElem? (i := 14) rfl)) F_1 (n := 68) rfl ?_
    intro T P
    refine iload P d3_68 rfl (n := 70) rfl ?_
    refine iloadN P d3_70 rfl (n := 71) rfl ?_
    refine stI P d3_71 A_1 (u := un.toInt.toNat) ⟨by omega, by omega⟩ (by omega) (n := 72) rfl ?_
    intro T h5 P W6
    replace E_a := Exa.wr W6 E_a
    replace F_un := Fld.other W6 F_un (Or.inl (Nat.ne_of_lt (by omega)))
    replace F_us := Fld.other W6 F_us (Or.inl (Nat.ne_of_lt (by omega)))
    replace F_0 := Fld.other W6 F_0 (Or.inl (Nat.ne_of_lt (by omega)))
    replace A_0 := A_0.other W6 (Nat.ne_of_lt (by omega))
    replace F_1 := Fld.other W6 F_1 (Or.inl (Nat.ne_of_lt (by omega)))
    replace F_2 := Fld.other W6 F_2 (Or.inl (Nat.ne_of_lt (by omega)))
    replace A_2 := A_2.other W6 (Ne.symm (Nat.ne_of_lt (by omega)))
    replace F_3 := Fld.other W6 F_3 (Or.inl (Nat.ne_of_lt (by omega)))
    replace A_3 := A_3.other W6 (Ne.symm (Nat.ne_of_lt (by omega)))
    replace F_4 := Fld.other W6 F_4 (Or.inl (Nat.ne_of_lt (by omega)))
    replace A_4 := A_4.other W6 (Ne.symm (Nat.ne_of_lt (by omega)))
    replace F_5 := Fld.other W6 F_5 (Or.inl (Nat.ne_of_lt (by omega)))
    replace A_5 := A_5.other W6 (Ne.symm (Nat.ne_of_lt (by omega)))
    replace F_6 := Fld.other W6 F_6 (Or.inl (Nat.ne_of_lt (by omega)))
    replace A_6 := A_6.other W6 (Ne.symm (Nat.ne_of_lt (by omega)))
    replace F_7 := Fld.other W6 F_7 (Or.inl (Nat.ne_of_lt (by omega)))
    replace A_7 := A_7.other W6 (Ne.symm (Nat.ne_of_lt (by omega)))
    replace F_8 := Fld.other W6 F_8 (Or.inl (Nat.ne_of_lt (by omega)))
    replace A_8 := A_8.other W6 (Ne.symm (Nat.ne_of_lt (by omega)))
    replace F_9 := Fld.other W6 F_9 (Or.inl (Nat.ne_of_lt (by omega)))
    replace A_9 := A_9.other W6 (Ne.symm (Nat.ne_of_lt (by omega)))
    replace F_10 := Fld.other W6 F_10 (Or.inl (Nat.ne_of_lt (by omega)))
    replace A_10 := A_10.other W6 (Ne.symm (Nat.ne_of_lt (by omega)))
    replace F_11 := Fld.other W6 F_11 (Or.inl (Nat.ne_of_lt (by omega)))
    replace A_11 := A_11.other W6 (Ne.symm (Nat.ne_of_lt (by omega)))
    replace A_1 := ARI.set A_1 W6
    refine aloadN P d3_72 rfl rfl (n := 73) rfl ?_
    refine getF P d3_73 (hw _ (List.mem_of_getElem? (i := 16) rfl)) F_2 (n := 76) rfl ?_
    intro T P
    refine iload P d3_76 rfl (n := 78) rfl ?_
    refine lload P d3_78 rfl (n := 80) rfl ?_
    refine stJ P d3_80 A_2 (u := un.toInt.toNat) ⟨by omega, by omega⟩ (by omega) (n := 81) rfl ?_
    intro T h7 P W8
    replace E_a := Exa.wr W8 E_a
    replace F_un := Fld.other W8 F_un (Or.inl (Nat.ne_of_lt (by omega)))
    replace F_us := Fld.other W8 F_us (Or.inl (Nat.ne_of_lt (by omega)))
    replace F_0 := Fld.other W8 F_0 (Or.inl (Nat.ne_of_lt (by omega)))
    replace A_0 := A_0.other W8 (Nat.ne_of_lt (by omega))
    replace F_1 := Fld.other W8 F_1 (Or.inl (Nat.ne_of_lt (by omega)))
    replace A_1 := A_1.other W8 (Nat.ne_of_lt (by omega))
    replace F_2 := Fld.other W8 F_2 (Or.inl (Nat.ne_of_lt (by omega)))
    replace F_3 := Fld.other W8 F_3 (Or.inl (Nat.ne_of_lt (by omega)))
    replace A_3 := A_3.other W8 (Ne.symm (Nat.ne_of_lt (by omega)))
    replace F_4 := Fld.other W8 F_4 (Or.inl (Nat.ne_of_lt (by omega)))
    replace A_4 := A_4.other W8 (Ne.symm (Nat.ne_of_lt (by omega)))
    replace F_5 := Fld.other W8 F_5 (Or.inl (Nat.ne_of_lt (by omega)))
    replace A_5 := A_5.other W8 (Ne.symm (Nat.ne_of_lt (by omega)))
    replace F_6 := Fld.other W8 F_6 (Or.inl (Nat.ne_of_lt (by omega)))
    replace A_6 := A_6.other W8 (Ne.symm (Nat.ne_of_lt (by omega)))
    replace F_7 := Fld.other W8 F_7 (Or.inl (Nat.ne_of_lt (by omega)))
    replace A_7 := A_7.other W8 (Ne.symm (Nat.ne_of_lt (by omega)))
    replace F_8 := Fld.other W8 F_8 (Or.inl (Nat.ne_of_lt (by omega)))
    replace A_8 := A_8.other W8 (Ne.symm (Nat.ne_of_lt (by omega)))
    replace F_9 := Fld.other W8 F_9 (Or.inl (Nat.ne_of_lt (by omega)))
    replace A_9 := A_9.other W8 (Ne.symm (Nat.ne_of_lt (by omega)))
    replace F_10 := Fld.other W8 F_10 (Or.inl (Nat.ne_of_lt (by omega)))
    replace A_10 := A_10.other W8 (Ne.symm (Nat.ne_of_lt (by omega)))
    replace F_11 := Fld.other W8 F_11 (Or.inl (Nat.ne_of_lt (by omega)))
    replace A_11 := A_11.other W8 (Ne.symm (Nat.ne_of_lt (by omega)))
    replace A_2 := ARJ.set A_2 W8
    refine aloadN P d3_81 rfl rfl (n := 82) rfl ?_
    refine getF P d3_82 (hw _ (List.mem_of_getElem? (i := 18) rfl)) F_3 (n := 85) rfl ?_
    intro T P
    refine iload P d3_85 rfl (n := 87) rfl ?_
    refine iload P d3_87 rfl (n := 89) rfl ?_
    refine stI P d3_89 A_3 (u := un.toInt.toNat) ⟨by omega, by omega⟩ (by omega) (n := 90) rfl ?_
    intro T h9 P W10
    replace E_a := Exa.wr W10 E_a
    replace F_un := Fld.other W10 F_un (Or.inl (Nat.ne_of_lt (by omega)))
    replace F_us := Fld.other W10 F_us (Or.inl (Nat.ne_of_lt (by omega)))
    replace F_0 := Fld.other W10 F_0 (Or.inl (Nat.ne_of_lt (by omega)))
    replace A_0 := A_0.other W10 (Nat.ne_of_lt (by omega))
    replace F_1 := Fld.other W10 F_1 (Or.inl (Nat.ne_of_lt (by omega)))
    replace A_1 := A_1.other W10 (Nat.ne_of_lt (by omega))
    replace F_2 := Fld.other W10 F_2 (Or.inl (Nat.ne_of_lt (by omega)))
    replace A_2 := A_2.other W10 (Nat.ne_of_lt (by omega))
    replace F_3 := Fld.other W10 F_3 (Or.inl (Nat.ne_of_lt (by omega)))
    replace F_4 := Fld.other W10 F_4 (Or.inl (Nat.ne_of_lt (by omega)))
    replace A_4 := A_4.other W10 (Ne.symm (Nat.ne_of_lt (by omega)))
    replace F_5 := Fld.other W10 F_5 (Or.inl (Nat.ne_of_lt (by omega)))
    replace A_5 := A_5.other W10 (Ne.symm (Nat.ne_of_lt (by omega)))
    replace F_6 := Fld.other W10 F_6 (Or.inl (Nat.ne_of_lt (by omega)))
    replace A_6 := A_6.other W10 (Ne.symm (Nat.ne_of_lt (by omega)))
    replace F_7 := Fld.other W10 F_7 (Or.inl (Nat.ne_of_lt (by omega)))
    replace A_7 := A_7.other W10 (Ne.symm (Nat.ne_of_lt (by omega)))
    replace F_8 := Fld.other W10 F_8 (Or.inl (Nat.ne_of_lt (by omega)))
    replace A_8 := A_8.other W10 (Ne.symm (Nat.ne_of_lt (by omega)))
    replace F_9 := Fld.other W10 F_9 (Or.inl (Nat.ne_of_lt (by omega)))
    replace A_9 := A_9.other W10 (Ne.symm (Nat.ne_of_lt (by omega)))
    replace F_10 := Fld.other W10 F_10 (Or.inl (Nat.ne_of_lt (by omega)))
    replace A_10 := A_10.other W10 (Ne.symm (Nat.ne_of_lt (by omega)))
    replace F_11 := Fld.other W10 F_11 (Or.inl (Nat.ne_of_lt (by omega)))
    replace A_11 := A_11.other W10 (Ne.symm (Nat.ne_of_lt (by omega)))
    replace A_3 := ARI.set A_3 W10
    refine aloadN P d3_90 rfl rfl (n := 91) rfl ?_
    refine getF P d3_91 (hw _ (List.mem_of_getElem? (i := 20) rfl)) F_4 (n := 94) rfl ?_
    intro T P
    refine iload P d3_94 rfl (n := 96) rfl ?_
    refine lload P d3_96 rfl (n := 98) rfl ?_
    refine stJ P d3_98 A_4 (u := un.toInt.toNat) ⟨by omega, by omega⟩ (by omega) (n := 99) rfl ?_
    intro T h11 P W12
    replace E_a := Exa.wr W12 E_a
    replace F_un := Fld.other W12 F_un (Or.inl (Nat.ne_of_lt (by omega)))
    replace F_us := Fld.other W12 F_us (Or.inl (Nat.ne_of_lt (by omega)))
    replace F_0 := Fld.other W12 F_0 (Or.inl (Nat.ne_of_lt (by omega)))
    replace A_0 := A_0.other W12 (Nat.ne_of_lt (by omega))
    replace F_1 := Fld.other W12 F_1 (Or.inl (Nat.ne_of_lt (by omega)))
    replace A_1 := A_1.other W12 (Nat.ne_of_lt (by omega))
    replace F_2 := Fld.other W12 F_2 (Or.inl (Nat.ne_of_lt (by omega)))
    replace A_2 := A_2.other W12 (Nat.ne_of_lt (by omega))
    replace F_3 := Fld.other W12 F_3 (Or.inl (Nat.ne_of_lt (by omega)))
    replace A_3 := A_3.other W12 (Nat.ne_of_lt (by omega))
    replace F_4 := Fld.other W12 F_4 (Or.inl (Nat.ne_of_lt (by omega)))
    replace F_5 := Fld.other W12 F_5 (Or.inl (Nat.ne_of_lt (by omega)))
    replace A_5 := A_5.other W12 (Ne.symm (Nat.ne_of_lt (by omega)))
    replace F_6 := Fld.other W12 F_6 (Or.inl (Nat.ne_of_lt (by omega)))
    replace A_6 := A_6.other W12 (Ne.symm (Nat.ne_of_lt (by omega)))
    replace F_7 := Fld.other W12 F_7 (Or.inl (Nat.ne_of_lt (by omega)))
    replace A_7 := A_7.other W12 (Ne.symm (Nat.ne_of_lt (by omega)))
    replace F_8 := Fld.other W12 F_8 (Or.inl (Nat.ne_of_lt (by omega)))
    replace A_8 := A_8.other W12 (Ne.symm (Nat.ne_of_lt (by omega)))
    replace F_9 := Fld.other W12 F_9 (Or.inl (Nat.ne_of_lt (by omega)))
    replace A_9 := A_9.other W12 (Ne.symm (Nat.ne_of_lt (by omega)))
    replace F_10 := Fld.other W12 F_10 (Or.inl (Nat.ne_of_lt (by omega)))
    replace A_10 := A_10.other W12 (Ne.symm (Nat.ne_of_lt (by omega)))
    replace F_11 := Fld.other W12 F_11 (Or.inl (Nat.ne_of_lt (by omega)))
    replace A_11 := A_11.other W12 (Ne.symm (Nat.ne_of_lt (by omega)))
    replace A_4 := ARJ.set A_4 W12
    refine aloadN P d3_99 rfl rfl (n := 100) rfl ?_
    refine getF P d3_100 (hw _ (List.mem_of_getElem? (i := 22) rfl)) F_5 (n := 103) rfl ?_
    intro T P
    refine iload P d3_103 rfl (n := 105) rfl ?_
    refine iload P d3_105 rfl (n := 107) rfl ?_
    refine stI P d3_107 A_5 (u := un.toInt.toNat) ⟨by omega, by omega⟩ (by omega) (n := 108) rfl ?_
    intro T h13 P W14
    replace E_a := Exa.wr W14 E_a
    replace F_un := Fld.other W14 F_un (Or.inl (Nat.ne_of_lt (by omega)))
    replace F_us := Fld.other W14 F_us (Or.inl (Nat.ne_of_lt (by omega)))
    replace F_0 := Fld.other W14 F_0 (Or.inl (Nat.ne_of_lt (by omega)))
    replace A_0 := A_0.other W14 (Nat.ne_of_lt (by omega))
    replace F_1 := Fld.other W14 F_1 (Or.inl (Nat.ne_of_lt (by omega)))
    replace A_1 := A_1.other W14 (Nat.ne_of_lt (by omega))
    replace F_2 := Fld.other W14 F_2 (Or.inl (Nat.ne_of_lt (by omega)))
    replace A_2 := A_2.other W14 (Nat.ne_of_lt (by omega))
    replace F_3 := Fld.other W14 F_3 (Or.inl (Nat.ne_of_lt (by omega)))
    replace A_3 := A_3.other W14 (Nat.ne_of_lt (by omega))
    replace F_4 := Fld.other W14 F_4 (Or.inl (Nat.ne_of_lt (by omega)))
    replace A_4 := A_4.other W14 (Nat.ne_of_lt (by omega))
    replace F_5 := Fld.other W14 F_5 (Or.inl (Nat.ne_of_lt (by omega)))
    replace F_6 := Fld.other W14 F_6 (Or.inl (Nat.ne_of_lt (by omega)))
    replace A_6 := A_6.other W14 (Ne.symm (Nat.ne_of_lt (by omega)))
    replace F_7 := Fld.other W14 F_7 (Or.inl (Nat.ne_of_lt (by omega)))
    replace A_7 := A_7.other W14 (Ne.symm (Nat.ne_of_lt (by omega)))
    replace F_8 := Fld.other W14 F_8 (Or.inl (Nat.ne_of_lt (by omega)))
    replace A_8 := A_8.other W14 (Ne.symm (Nat.ne_of_lt (by omega)))
    replace F_9 := Fld.other W14 F_9 (Or.inl (Nat.ne_of_lt (by omega)))
    replace A_9 := A_9.other W14 (Ne.symm (Nat.ne_of_lt (by omega)))
    replace F_10 := Fld.other W14 F_10 (Or.inl (Nat.ne_of_lt (by omega)))
    replace A_10 := A_10.other W14 (Ne.symm (Nat.ne_of_lt (by omega)))
    replace F_11 := Fld.other W14 F_11 (Or.inl (Nat.ne_of_lt (by omega)))
    replace A_11 := A_11.other W14 (Ne.symm (Nat.ne_of_lt (by omega)))
    replace A_5 := ARI.set A_5 W14
    refine aloadN P d3_108 rfl rfl (n := 109) rfl ?_
    refine getF P d3_109 (hw _ (List.mem_of_getElem? (i := 24) rfl)) F_6 (n := 112) rfl ?_
    intro T P
    refine iload P d3_112 rfl (n := 114) rfl ?_
    refine lconst P d3_114 (x := (1 : Int64)) rfl (n := 115) rfl ?_
    refine stJ P d3_115 A_6 (u := un.toInt.toNat) ⟨by omega, by omega⟩ (by omega) (n := 116) rfl ?_
    intro T h15 P W16
    replace E_a := Exa.wr W16 E_a
    replace F_un := Fld.other W16 F_un (Or.inl (Nat.ne_of_lt (by omega)))
    replace F_us := Fld.other W16 F_us (Or.inl (Nat.ne_of_lt (by omega)))
    replace F_0 := Fld.other W16 F_0 (Or.inl (Nat.ne_of_lt (by omega)))
    replace A_0 := A_0.other W16 (Nat.ne_of_lt (by omega))
    replace F_1 := Fld.other W16 F_1 (Or.inl (Nat.ne_of_lt (by omega)))
    replace A_1 := A_1.other W16 (Nat.ne_of_lt (by omega))
    replace F_2 := Fld.other W16 F_2 (Or.inl (Nat.ne_of_lt (by omega)))
    replace A_2 := A_2.other W16 (Nat.ne_of_lt (by omega))
    replace F_3 := Fld.other W16 F_3 (Or.inl (Nat.ne_of_lt (by omega)))
    replace A_3 := A_3.other W16 (Nat.ne_of_lt (by omega))
    replace F_4 := Fld.other W16 F_4 (Or.inl (Nat.ne_of_lt (by omega)))
    replace A_4 := A_4.other W16 (Nat.ne_of_lt (by omega))
    replace F_5 := Fld.other W16 F_5 (Or.inl (Nat.ne_of_lt (by omega)))
    replace A_5 := A_5.other W16 (Nat.ne_of_lt (by omega))
    replace F_6 := Fld.other W16 F_6 (Or.inl (Nat.ne_of_lt (by omega)))
    replace F_7 := Fld.other W16 F_7 (Or.inl (Nat.ne_of_lt (by omega)))
    replace A_7 := A_7.other W16 (Ne.symm (Nat.ne_of_lt (by omega)))
    replace F_8 := Fld.other W16 F_8 (Or.inl (Nat.ne_of_lt (by omega)))
    replace A_8 := A_8.other W16 (Ne.symm (Nat.ne_of_lt (by omega)))
    replace F_9 := Fld.other W16 F_9 (Or.inl (Nat.ne_of_lt (by omega)))
    replace A_9 := A_9.other W16 (Ne.symm (Nat.ne_of_lt (by omega)))
    replace F_10 := Fld.other W16 F_10 (Or.inl (Nat.ne_of_lt (by omega)))
    replace A_10 := A_10.other W16 (Ne.symm (Nat.ne_of_lt (by omega)))
    replace F_11 := Fld.other W16 F_11 (Or.inl (Nat.ne_of_lt (by omega)))
    replace A_11 := A_11.other W16 (Ne.symm (Nat.ne_of_lt (by omega)))
    replace A_6 := ARJ.set A_6 W16
    refine aloadN P d3_116 rfl rfl (n := 117) rfl ?_
    refine getF P d3_117 (hw _ (List.mem_of_getElem? (i := 26) rfl)) F_7 (n := 120) rfl ?_
    intro T P
    refine iload P d3_120 rfl (n := 122) rfl ?_
    refine iload P d3_122 rfl (n := 124) rfl ?_
    refine stI P d3_124 A_7 (u := un.toInt.toNat) ⟨by omega, by omega⟩ (by omega) (n := 125) rfl ?_
    intro T h17 P W18
    replace E_a := Exa.wr W18 E_a
    replace F_un := Fld.other W18 F_un (Or.inl (Nat.ne_of_lt (by omega)))
    replace F_us := Fld.other W18 F_us (Or.inl (Nat.ne_of_lt (by omega)))
    replace F_0 := Fld.other W18 F_0 (Or.inl (Nat.ne_of_lt (by omega)))
    replace A_0 := A_0.other W18 (Nat.ne_of_lt (by omega))
    replace F_1 := Fld.other W18 F_1 (Or.inl (Nat.ne_of_lt (by omega)))
    replace A_1 := A_1.other W18 (Nat.ne_of_lt (by omega))
    replace F_2 := Fld.other W18 F_2 (Or.inl (Nat.ne_of_lt (by omega)))
    replace A_2 := A_2.other W18 (Nat.ne_of_lt (by omega))
    replace F_3 := Fld.other W18 F_3 (Or.inl (Nat.ne_of_lt (by omega)))
    replace A_3 := A_3.other W18 (Nat.ne_of_lt (by omega))
    replace F_4 := Fld.other W18 F_4 (Or.inl (Nat.ne_of_lt (by omega)))
    replace A_4 := A_4.other W18 (Nat.ne_of_lt (by omega))
    replace F_5 := Fld.other W18 F_5 (Or.inl (Nat.ne_of_lt (by omega)))
    replace A_5 := A_5.other W18 (Nat.ne_of_lt (by omega))
    replace F_6 := Fld.other W18 F_6 (Or.inl (Nat.ne_of_lt (by omega)))
    replace A_6 := A_6.other W18 (Nat.ne_of_lt (by omega))
    replace F_7 := Fld.other W18 F_7 (Or.inl (Nat.ne_of_lt (by omega)))
    replace F_8 := Fld.other W18 F_8 (Or.inl (Nat.ne_of_lt (by omega)))
    replace A_8 := A_8.other W18 (Ne.symm (Nat.ne_of_lt (by omega)))
    replace F_9 := Fld.other W18 F_9 (Or.inl (Nat.ne_of_lt (by omega)))
    replace A_9 := A_9.other W18 (Ne.symm (Nat.ne_of_lt (by omega)))
    replace F_10 := Fld.other W18 F_10 (Or.inl (Nat.ne_of_lt (by omega)))
    replace A_10 := A_10.other W18 (Ne.symm (Nat.ne_of_lt (by omega)))
    replace F_11 := Fld.other W18 F_11 (Or.inl (Nat.ne_of_lt (by omega)))
    replace A_11 := A_11.other W18 (Ne.symm (Nat.ne_of_lt (by omega)))
    replace A_7 := ARI.set A_7 W18
    refine aloadN P d3_125 rfl rfl (n := 126) rfl ?_
    refine getF P d3_126 (hw _ (List.mem_of_getElem? (i := 32) rfl)) F_9 (n := 129) rfl ?_
    intro T P
    refine iload P d3_129 rfl (n := 131) rfl ?_
    refine iconst P d3_131 (x := (0 : Int32)) rfl (n := 132) rfl ?_
    refine stI P d3_132 A_9 (u := un.toInt.toNat) ⟨by omega, by omega⟩ (by omega) (n := 133) rfl ?_
    intro T h19 P W20
    replace E_a := Exa.wr W20 E_a
    replace F_un := Fld.other W20 F_un (Or.inl (Nat.ne_of_lt (by omega)))
    replace F_us := Fld.other W20 F_us (Or.inl (Nat.ne_of_lt (by omega)))
    replace F_0 := Fld.other W20 F_0 (Or.inl (Nat.ne_of_lt (by omega)))
    replace A_0 := A_0.other W20 (Nat.ne_of_lt (by omega))
    replace F_1 := Fld.other W20 F_1 (Or.inl (Nat.ne_of_lt (by omega)))
    replace A_1 := A_1.other W20 (Nat.ne_of_lt (by omega))
    replace F_2 := Fld.other W20 F_2 (Or.inl (Nat.ne_of_lt (by omega)))
    replace A_2 := A_2.other W20 (Nat.ne_of_lt (by omega))
    replace F_3 := Fld.other W20 F_3 (Or.inl (Nat.ne_of_lt (by omega)))
    replace A_3 := A_3.other W20 (Nat.ne_of_lt (by omega))
    replace F_4 := Fld.other W20 F_4 (Or.inl (Nat.ne_of_lt (by omega)))
    replace A_4 := A_4.other W20 (Nat.ne_of_lt (by omega))
    replace F_5 := Fld.other W20 F_5 (Or.inl (Nat.ne_of_lt (by omega)))
    replace A_5 := A_5.other W20 (Nat.ne_of_lt (by omega))
    replace F_6 := Fld.other W20 F_6 (Or.inl (Nat.ne_of_lt (by omega)))
    replace A_6 := A_6.other W20 (Nat.ne_of_lt (by omega))
    replace F_7 := Fld.other W20 F_7 (Or.inl (Nat.ne_of_lt (by omega)))
    replace A_7 := A_7.other W20 (Nat.ne_of_lt (by omega))
    replace F_8 := Fld.other W20 F_8 (Or.inl (Nat.ne_of_lt (by omega)))
    replace A_8 := A_8.other W20 (Nat.ne_of_lt (by omega))
    replace F_9 := Fld.other W20 F_9 (Or.inl (Nat.ne_of_lt (by omega)))
    replace F_10 := Fld.other W20 F_10 (Or.inl (Nat.ne_of_lt (by omega)))
    replace A_10 := A_10.other W20 (Ne.symm (Nat.ne_of_lt (by omega)))
    replace F_11 := Fld.other W20 F_11 (Or.inl (Nat.ne_of_lt (by omega)))
    replace A_11 := A_11.other W20 (Ne.symm (Nat.ne_of_lt (by omega)))
    replace A_9 := ARI.set A_9 W20
    refine aloadN P d3_133 rfl rfl (n := 134) rfl ?_
    refine iload P d3_134 rfl (n := 136) rfl ?_
    have O9 : own_OS Z n0 h19 a (gl un.toInt.toNat) us ge gl := ⟨_, _, _, _, _, _, _, _, _, _, _, _, _, _, _, _, _, _, _, _, _, _, E_a, F_un, F_us, F_0, F_1, F_2, F_3, F_4, F_5, F_6, F_7, F_8, F_9, F_10, F_11, A_0, A_1, A_2, A_3, A_4, A_5, A_6, A_7, A_8, A_9, A_10, A_11, lo_a, c0, c1, c2, c3, c4, c5, c6, c7, c8, c9, c10, c11⟩
    refine callP P d3_136 (a := a) (argsL := [(.int un)]) (rest := []) (c_queue l Z a0 hw a un (gl un.toInt.toNat) us ge gl h19 n0 P.low O9 (by omega) (by omega)) E_a (hw _ (List.mem_of_getElem? (i := 48) rfl)) (hw _ (List.mem_of_getElem? (i := 49) rfl)) (hw _ (List.mem_of_getElem? (i := 2) rfl)) (hw _ (List.mem_of_getElem? (i := 50) rfl)) (hw _ (List.mem_of_getElem? (i := 3) rfl)) (hw _ (List.mem_of_getElem? (i := 51) rfl)) (by decide) pd_0 rfl rfl rfl ⟨by decide, Nat.le_of_ble_eq_true rfl, by decide, by decide⟩ (n := 139) rfl ?_
    rintro T h21 v P ⟨rfl, O8⟩
    show Jvm.Own.Ends p e below s rm_c_open n0 (fun v h => (un.toInt = 0 → v = some (.int us) ∧ own_OS Z n0 h a un (us + 1) (ovr (ovr ge us.toInt.toNat (ge 0)) 0 us) (ovr (ovr gl us.toInt.toNat 0) (ge 0).toInt.toNat us)) ∧ (¬ un.toInt = 0 → v = some (.int un) ∧ own_OS Z n0 h a (gl un.toInt.toNat) us (ovr (ovr ge un.toInt.toNat (ge 0)) 0 un) (ovr (ovr gl un.toInt.toNat 0) (ge 0).toInt.toNat un))) T (mkF m 139 #[.val (.ref a), .val (.long p1), .second, .val (.int p2), .val (.long p3), .second, .val (.int p4), .val (.int p5), .val (.int un)] [])
    refine iload P d3_139 rfl (n := 141) rfl ?_
    refine retI P d3_141 (by decide) (by decide) ?_
    exact ⟨fun q => absurd q hc4, fun _ => ⟨rfl, O8⟩⟩
  · -- pc 4 not taken
    replace hc4 : un.toInt = (0 : Int) := hc4
    refine aloadN P d3_7 rfl rfl (n := 8) rfl ?_
    refine getF P d3_8 (hw _ (List.mem_of_getElem? (i := 40) rfl)) F_us (n := 11) rfl ?_
    intro T P
    refine aloadN P d3_11 rfl rfl (n := 12) rfl ?_
    refine getF P d3_12 (hw _ (List.mem_of_getElem? (i := 11) rfl)) F_0 (n := 15) rfl ?_
    intro T P
    refine alen P d3_15 A_0 (x := (1024 : Int32)) rfl (n := 16) rfl ?_
    refine icmp_ne P d3_16 (n' := 23) (n := 19) (by decide) rfl (fun hc16 => ?_) (fun hc16 => ?_)
    · -- pc 16 taken
      replace hc16 : ¬ us.toInt = (1024 : Int) := hc16
      refine aloadN P d3_23 rfl rfl (n := 24) rfl ?_
      refine dup P d3_24 rfl (n := 25) rfl ?_
      refine getF P d3_25 (hw _ (List.mem_of_getElem? (i := 40) rfl)) F_us (n := 28) rfl ?_
      intro T P
      refine dupX1 P d3_28 rfl rfl (n := 29) rfl ?_
      refine iconst P d3_29 (x := (1 : Int32)) rfl (n := 30) rfl ?_
      refine iadd P d3_30 (n := 31) rfl ?_
      refine putF P d3_31 (hw _ (List.mem_of_getElem? (i := 40) rfl)) F_us E_a (Or.inl (hw _ (List.mem_of_getElem? (i := 41) rfl))) (hw _ (List.mem_of_getElem? (i := 2) rfl)) (ty := .int) (by decide) rfl rfl lo_a (n := 34) rfl ?_
      intro T h22 P W23
      replace E_a := Exa.wr W23 E_a
      replace F_un := Fld.other W23 F_un (Or.inr (slot_ne (Or.inl (hw _ (List.mem_of_getElem? (i := 39) rfl))) (Or.inl (hw _ (List.mem_of_getElem? (i := 41) rfl))) (by decide) (t := .int) (t' := .int) (by decide) (by decide)))
      replace F_0 := Fld.other W23 F_0 (Or.inr (slot_ne (Or.inl (hw _ (List.mem_of_getElem? (i := 12) rfl))) (Or.inl (hw _ (List.mem_of_getElem? (i := 41) rfl))) (by decide) (t := (.array .long)) (t' := .int) (by decide) (by decide)))
      replace A_0 := A_0.other W23 (Ne.symm (Nat.ne_of_lt (by omega)))
      replace F_1 := Fld.other W23 F_1 (Or.inr (slot_ne (Or.inl (hw _ (List.mem_of_getElem? (i := 15) rfl))) (Or.inl (hw _ (List.mem_of_getElem? (i := 41) rfl))) (by decide) (t := (.array .int)) (t' := .int) (by decide) (by decide)))
      replace A_1 := A_1.other W23 (Ne.symm (Nat.ne_of_lt (by omega)))
      replace F_2 := Fld.other W23 F_2 (Or.inr (slot_ne (Or.inl (hw _ (List.mem_of_getElem? (i := 17) rfl))) (Or.inl (hw _ (List.mem_of_getElem? (i := 41) rfl))) (by decide) (t := (.array .long)) (t' := .int) (by decide) (by decide)))
      replace A_2 := A_2.other W23 (Ne.symm (Nat.ne_of_lt (by omega)))
      replace F_3 := Fld.other W23 F_3 (Or.inr (slot_ne (Or.inl (hw _ (List.mem_of_getElem? (i := 19) rfl))) (Or.inl (hw _ (List.mem_of_getElem? (i := 41) rfl))) (by decide) (t := (.array .int)) (t' := .int) (by decide) (by decide)))
      replace A_3 := A_3.other W23 (Ne.symm (Nat.ne_of_lt (by omega)))
      replace F_4 := Fld.other W23 F_4 (Or.inr (slot_ne (Or.inl (hw _ (List.mem_of_getElem? (i := 21) rfl))) (Or.inl (hw _ (List.mem_of_getElem? (i := 41) rfl))) (by decide) (t := (.array .long)) (t' := .int) (by decide) (by decide)))
      replace A_4 := A_4.other W23 (Ne.symm (Nat.ne_of_lt (by omega)))
      replace F_5 := Fld.other W23 F_5 (Or.inr (slot_ne (Or.inl (hw _ (List.mem_of_getElem? (i := 23) rfl))) (Or.inl (hw _ (List.mem_of_getElem? (i := 41) rfl))) (by decide) (t := (.array .int)) (t' := .int) (by decide) (by decide)))
      replace A_5 := A_5.other W23 (Ne.symm (Nat.ne_of_lt (by omega)))
      replace F_6 := Fld.other W23 F_6 (Or.inr (slot_ne (Or.inl (hw _ (List.mem_of_getElem? (i := 25) rfl))) (Or.inl (hw _ (List.mem_of_getElem? (i := 41) rfl))) (by decide) (t := (.array .long)) (t' := .int) (by decide) (by decide)))
      replace A_6 := A_6.other W23 (Ne.symm (Nat.ne_of_lt (by omega)))
      replace F_7 := Fld.other W23 F_7 (Or.inr (slot_ne (Or.inl (hw _ (List.mem_of_getElem? (i := 27) rfl))) (Or.inl (hw _ (List.mem_of_getElem? (i := 41) rfl))) (by decide) (t := (.array .int)) (t' := .int) (by decide) (by decide)))
      replace A_7 := A_7.other W23 (Ne.symm (Nat.ne_of_lt (by omega)))
      replace F_8 := Fld.other W23 F_8 (Or.inr (slot_ne (Or.inl (hw _ (List.mem_of_getElem? (i := 31) rfl))) (Or.inl (hw _ (List.mem_of_getElem? (i := 41) rfl))) (by decide) (t := (.array (.array .int))) (t' := .int) (by decide) (by decide)))
      replace A_8 := A_8.other W23 (Ne.symm (Nat.ne_of_lt (by omega)))
      replace F_9 := Fld.other W23 F_9 (Or.inr (slot_ne (Or.inl (hw _ (List.mem_of_getElem? (i := 33) rfl))) (Or.inl (hw _ (List.mem_of_getElem? (i := 41) rfl))) (by decide) (t := (.array .int)) (t' := .int) (by decide) (by decide)))
      replace A_9 := A_9.other W23 (Ne.symm (Nat.ne_of_lt (by omega)))
      replace F_10 := Fld.other W23 F_10 (Or.inr (slot_ne (Or.inl (hw _ (List.mem_of_getElem? (i := 35) rfl))) (Or.inl (hw _ (List.mem_of_getElem? (i := 41) rfl))) (by decide) (t := (.array .int)) (t' := .int) (by decide) (by decide)))
      replace A_10 := A_10.other W23 (Ne.symm (Nat.ne_of_lt (by omega)))
      replace F_11 := Fld.other W23 F_11 (Or.inr (slot_ne (Or.inl (hw _ (List.mem_of_getElem? (i := 37) rfl))) (Or.inl (hw _ (List.mem_of_getElem? (i := 41) rfl))) (by decide) (t := (.array .int)) (t' := .int) (by decide) (by decide)))
      replace A_11 := A_11.other W23 (Ne.symm (Nat.ne_of_lt (by omega)))
      replace F_us := Fld.same W23 F_us
      refine istore P d3_34 (l' := #[.val (.ref a), .val (.long p1), .second, .val (.int p2), .val (.long p3), .second, .val (.int p4), .val (.int p5), .val (.int us)]) rfl (n := 36) rfl ?_
      refine goto P d3_36 (n := 56) (by decide) ?_
      refine aloadN P d3_56 rfl rfl (n := 57) rfl ?_
      refine getF P d3_57 (hw _ (List.mem_of_getElem? (i := 11) rfl)) F_0 (n := 60) rfl ?_
      intro T P
      refine iload P d3_60 rfl (n := 62) rfl ?_
      refine lloadN P d3_62 rfl (n := 63) rfl ?_
      refine stJ P d3_63 A_0 (u := us.toInt.toNat) ⟨by omega, by omega⟩ (by omega) (n := 64) rfl ?_
      intro T h24 P W25
      replace E_a := Exa.wr W25 E_a
      replace F_un := Fld.other W25 F_un (Or.inl (Nat.ne_of_lt (by omega)))
      replace F_us := Fld.other W25 F_us (Or.inl (Nat.ne_of_lt (by omega)))
      replace F_0 := Fld.other W25 F_0 (Or.inl (Nat.ne_of_lt (by omega)))
      replace F_1 := Fld.other W25 F_1 (Or.inl (Nat.ne_of_lt (by omega)))
      replace A_1 := A_1.other W25 (Ne.symm (Nat.ne_of_lt (by omega)))
      replace F_2 := Fld.other W25 F_2 (Or.inl (Nat.ne_of_lt (by omega)))
      replace A_2 := A_2.other W25 (Ne.symm (Nat.ne_of_lt (by omega)))
      replace F_3 := Fld.other W25 F_3 (Or.inl (Nat.ne_of_lt (by omega)))
      replace A_3 := A_3.other W25 (Ne.symm (Nat.ne_of_lt (by omega)))
      replace F_4 := Fld.other W25 F_4 (Or.inl (Nat.ne_of_lt (by omega)))
      replace A_4 := A_4.other W25 (Ne.symm (Nat.ne_of_lt (by omega)))
      replace F_5 := Fld.other W25 F_5 (Or.inl (Nat.ne_of_lt (by omega)))
      replace A_5 := A_5.other W25 (Ne.symm (Nat.ne_of_lt (by omega)))
      replace F_6 := Fld.other W25 F_6 (Or.inl (Nat.ne_of_lt (by omega)))
      replace A_6 := A_6.other W25 (Ne.symm (Nat.ne_of_lt (by omega)))
      replace F_7 := Fld.other W25 F_7 (Or.inl (Nat.ne_of_lt (by omega)))
      replace A_7 := A_7.other W25 (Ne.symm (Nat.ne_of_lt (by omega)))
      replace F_8 := Fld.other W25 F_8 (Or.inl (Nat.ne_of_lt (by omega)))
      replace A_8 := A_8.other W25 (Ne.symm (Nat.ne_of_lt (by omega)))
      replace F_9 := Fld.other W25 F_9 (Or.inl (Nat.ne_of_lt (by omega)))
      replace A_9 := A_9.other W25 (Ne.symm (Nat.ne_of_lt (by omega)))
      replace F_10 := Fld.other W25 F_10 (Or.inl (Nat.ne_of_lt (by omega)))
      replace A_10 := A_10.other W25 (Ne.symm (Nat.ne_of_lt (by omega)))
      replace F_11 := Fld.other W25 F_11 (Or.inl (Nat.ne_of_lt (by omega)))
      replace A_11 := A_11.other W25 (Ne.symm (Nat.ne_of_lt (by omega)))
      replace A_0 := ARJ.set A_0 W25
      refine aloadN P d3_64 rfl rfl (n := 65) rfl ?_
      refine getF P d3_65 (hw _ (List.mem_of_getElem? (i := 14) rfl)) F_1 (n := 68) rfl ?_
      intro T P
      refine iload P d3_68 rfl (n := 70) rfl ?_
      refine iloadN P d3_70 rfl (n := 71) rfl ?_
      refine stI P d3_71 A_1 (u := us.toInt.toNat) ⟨by omega, by omega⟩ (by omega) (n := 72) rfl ?_
      intro T h26 P W27
      replace E_a := Exa.wr W27 E_a
      replace F_un := Fld.other W27 F_un (Or.inl (Nat.ne_of_lt (by omega)))
      replace F_us := Fld.other W27 F_us (Or.inl (Nat.ne_of_lt (by omega)))
      replace F_0 := Fld.other W27 F_0 (Or.inl (Nat.ne_of_lt (by omega)))
      replace A_0 := A_0.other W27 (Nat.ne_of_lt (by omega))
      replace F_1 := Fld.other W27 F_1 (Or.inl (Nat.ne_of_lt (by omega)))
      replace F_2 := Fld.other W27 F_2 (Or.inl (Nat.ne_of_lt (by omega)))
      replace A_2 := A_2.other W27 (Ne.symm (Nat.ne_of_lt (by omega)))
      replace F_3 := Fld.other W27 F_3 (Or.inl (Nat.ne_of_lt (by omega)))
      replace A_3 := A_3.other W27 (Ne.symm (Nat.ne_of_lt (by omega)))
      replace F_4 := Fld.other W27 F_4 (Or.inl (Nat.ne_of_lt (by omega)))
      replace A_4 := A_4.other W27 (Ne.symm (Nat.ne_of_lt (by omega)))
      replace F_5 := Fld.other W27 F_5 (Or.inl (Nat.ne_of_lt (by omega)))
      replace A_5 := A_5.other W27 (Ne.symm (Nat.ne_of_lt (by omega)))
      replace F_6 := Fld.other W27 F_6 (Or.inl (Nat.ne_of_lt (by omega)))
      replace A_6 := A_6.other W27 (Ne.symm (Nat.ne_of_lt (by omega)))
      replace F_7 := Fld.other W27 F_7 (Or.inl (Nat.ne_of_lt (by omega)))
      replace A_7 := A_7.other W27 (Ne.symm (Nat.ne_of_lt (by omega)))
      replace F_8 := Fld.other W27 F_8 (Or.inl (Nat.ne_of_lt (by omega)))
      replace A_8 := A_8.other W27 (Ne.symm (Nat.ne_of_lt (by omega)))
      replace F_9 := Fld.other W27 F_9 (Or.inl (Nat.ne_of_lt (by omega)))
      replace A_9 := A_9.other W27 (Ne.symm (Nat.ne_of_lt (by omega)))
      replace F_10 := Fld.other W27 F_10 (Or.inl (Nat.ne_of_lt (by omega)))
      replace A_10 := A_10.other W27 (Ne.symm (Nat.ne_of_lt (by omega)))
      replace F_11 := Fld.other W27 F_11 (Or.inl (Nat.ne_of_lt (by omega)))
      replace A_11 := A_11.other W27 (Ne.symm (Nat.ne_of_lt (by omega)))
      replace A_1 := ARI.set A_1 W27
      refine aloadN P d3_72 rfl rfl (n := 73) rfl ?_
      refine getF P d3_73 (hw _ (List.mem_of_getElem? (i := 16) rfl)) F_2 (n := 76) rfl ?_
      intro T P
      refine iload P d3_76 rfl (n := 78) rfl ?_
      refine lload P d3_78 rfl (n := 80) rfl ?_
      refine stJ P d3_80 A_2 (u := us.toInt.toNat) ⟨by omega, by omega⟩ (by omega) (n := 81) rfl ?_
      intro T h28 P W29
      replace E_a := Exa.wr W29 E_a
      replace F_un := Fld.other W29 F_un (Or.inl (Nat.ne_of_lt (by omega)))
      replace F_us := Fld.other W29 F_us (Or.inl (Nat.ne_of_lt (by omega)))
      replace F_0 := Fld.other W29 F_0 (Or.inl (Nat.ne_of_lt (by omega)))
      replace A_0 := A_0.other W29 (Nat.ne_of_lt (by omega))
      replace F_1 := Fld.other W29 F_1 (Or.inl (Nat.ne_of_lt (by omega)))
      replace A_1 := A_1.other W29 (Nat.ne_of_lt (by omega))
      replace F_2 := Fld.other W29 F_2 (Or.inl (Nat.ne_of_lt (by omega)))
      replace F_3 := Fld.other W29 F_3 (Or.inl (Nat.ne_of_lt (by omega)))
      replace A_3 := A_3.other W29 (Ne.symm (Nat.ne_of_lt (by omega)))
      replace F_4 := Fld.other W29 F_4 (Or.inl (Nat.ne_of_lt (by omega)))
      replace A_4 := A_4.other W29 (Ne.symm (Nat.ne_of_lt (by omega)))
      replace F_5 := Fld.other W29 F_5 (Or.inl (Nat.ne_of_lt (by omega)))
      replace A_5 := A_5.other W29 (Ne.symm (Nat.ne_of_lt (by omega)))
      replace F_6 := Fld.other W29 F_6 (Or.inl (Nat.ne_of_lt (by omega)))
      replace A_6 := A_6.other W29 (Ne.symm (Nat.ne_of_lt (by omega)))
      replace F_7 := Fld.other W29 F_7 (Or.inl (Nat.ne_of_lt (by omega)))
      replace A_7 := A_7.other W29 (Ne.symm (Nat.ne_of_lt (by omega)))
      replace F_8 := Fld.other W29 F_8 (Or.inl (Nat.ne_of_lt (by omega)))
      replace A_8 := A_8.other W29 (Ne.symm (Nat.ne_of_lt (by omega)))
      replace F_9 := Fld.other W29 F_9 (Or.inl (Nat.ne_of_lt (by omega)))
      replace A_9 := A_9.other W29 (Ne.symm (Nat.ne_of_lt (by omega)))
      replace F_10 := Fld.other W29 F_10 (Or.inl (Nat.ne_of_lt (by omega)))
      replace A_10 := A_10.other W29 (Ne.symm (Nat.ne_of_lt (by omega)))
      replace F_11 := Fld.other W29 F_11 (Or.inl (Nat.ne_of_lt (by omega)))
      replace A_11 := A_11.other W29 (Ne.symm (Nat.ne_of_lt (by omega)))
      replace A_2 := ARJ.set A_2 W29
      refine aloadN P d3_81 rfl rfl (n := 82) rfl ?_
      refine getF P d3_82 (hw _ (List.mem_of_getElem? (i := 18) rfl)) F_3 (n := 85) rfl ?_
      intro T P
      refine iload P d3_85 rfl (n := 87) rfl ?_
      refine iload P d3_87 rfl (n := 89) rfl ?_
      refine stI P d3_89 A_3 (u := us.toInt.toNat) ⟨by omega, by omega⟩ (by omega) (n := 90) rfl ?_
      intro T h30 P W31
      replace E_a := Exa.wr W31 E_a
      replace F_un := Fld.other W31 F_un (Or.inl (Nat.ne_of_lt (by omega)))
      replace F_us := Fld.other W31 F_us (Or.inl (Nat.ne_of_lt (by omega)))
      replace F_0 := Fld.other W31 F_0 (Or.inl (Nat.ne_of_lt (by omega)))
      replace A_0 := A_0.other W31 (Nat.ne_of_lt (by omega))
      replace F_1 := Fld.other W31 F_1 (Or.inl (Nat.ne_of_lt (by omega)))
      replace A_1 := A_1.other W31 (Nat.ne_of_lt (by omega))
      replace F_2 := Fld.other W31 F_2 (Or.inl (Nat.ne_of_lt (by omega)))
      replace A_2 := A_2.other W31 (Nat.ne_of_lt (by omega))
      replace F_3 := Fld.other W31 F_3 (Or.inl (Nat.ne_of_lt (by omega)))
      replace F_4 := Fld.other W31 F_4 (Or.inl (Nat.ne_of_lt (by omega)))
      replace A_4 := A_4.other W31 (Ne.symm (Nat.ne_of_lt (by omega)))
      replace F_5 := Fld.other W31 F_5 (Or.inl (Nat.ne_of_lt (by omega)))
      replace A_5 := A_5.other W31 (Ne.symm (Nat.ne_of_lt (by omega)))
      replace F_6 := Fld.other W31 F_6 (Or.inl (Nat.ne_of_lt (by omega)))
      replace A_6 := A_6.other W31 (Ne.symm (Nat.ne_of_lt (by omega)))
      replace F_7 := Fld.other W31 F_7 (Or.inl (Nat.ne_of_lt (by omega)))
      replace A_7 := A_7.other W31 (Ne.symm (Nat.ne_of_lt (by omega)))
      replace F_8 := Fld.other W31 F_8 (Or.inl (Nat.ne_of_lt (by omega)))
      replace A_8 := A_8.other W31 (Ne.symm (Nat.ne_of_lt (by omega)))
      replace F_9 := Fld.other W31 F_9 (Or.inl (Nat.ne_of_lt (by omega)))
      replace A_9 := A_9.other W31 (Ne.symm (Nat.ne_of_lt (by omega)))
      replace F_10 := Fld.other W31 F_10 (Or.inl (Nat.ne_of_lt (by omega)))
      replace A_10 := A_10.other W31 (Ne.symm (Nat.ne_of_lt (by omega)))
      replace F_11 := Fld.other W31 F_11 (Or.inl (Nat.ne_of_lt (by omega)))
      replace A_11 := A_11.other W31 (Ne.symm (Nat.ne_of_lt (by omega)))
      replace A_3 := ARI.set A_3 W31
      refine aloadN P d3_90 rfl rfl (n := 91) rfl ?_
      refine getF P d3_91 (hw _ (List.mem_of_getElem? (i := 20) rfl)) F_4 (n := 94) rfl ?_
      intro T P
      refine iload P d3_94 rfl (n := 96) rfl ?_
      refine lload P d3_96 rfl (n := 98) rfl ?_
      refine stJ P d3_98 A_4 (u := us.toInt.toNat) ⟨by omega, by omega⟩ (by omega) (n := 99) rfl ?_
      intro T h32 P W33
      replace E_a := Exa.wr W33 E_a
      replace F_un := Fld.other W33 F_un (Or.inl (Nat.ne_of_lt (by omega)))
      replace F_us := Fld.other W33 F_us (Or.inl (Nat.ne_of_lt (by omega)))
      replace F_0 := Fld.other W33 F_0 (Or.inl (Nat.ne_of_lt (by omega)))
      replace A_0 := A_0.other W33 (Nat.ne_of_lt (by omega))
      replace F_1 := Fld.other W33 F_1 (Or.inl (Nat.ne_of_lt (by omega)))
      replace A_1 := A_1.other W33 (Nat.ne_of_lt (by omega))
      replace F_2 := Fld.other W33 F_2 (Or.inl (Nat.ne_of_lt (by omega)))
      replace A_2 := A_2.other W33 (Nat.ne_of_lt (by omega))
      replace F_3 := Fld.other W33 F_3 (Or.inl (Nat.ne_of_lt (by omega)))
      replace A_3 := A_3.other W33 (Nat.ne_of_lt (by omega))
      replace F_4 := Fld.other W33 F_4 (Or.inl (Nat.ne_of_lt (by omega)))
      replace F_5 := Fld.other W33 F_5 (Or.inl (Nat.ne_of_lt (by omega)))
      replace A_5 := A_5.other W33 (Ne.symm (Nat.ne_of_lt (by omega)))
      replace F_6 := Fld.other W33 F_6 (Or.inl (Nat.ne_of_lt (by omega)))
      replace A_6 := A_6.other W33 (Ne.symm (Nat.ne_of_lt (by omega)))
      replace F_7 := Fld.other W33 F_7 (Or.inl (Nat.ne_of_lt (by omega)))
      replace A_7 := A_7.other W33 (Ne.symm (Nat.ne_of_lt (by omega)))
      replace F_8 := Fld.other W33 F_8 (Or.inl (Nat.ne_of_lt (by omega)))
      replace A_8 := A_8.other W33 (Ne.symm (Nat.ne_of_lt (by omega)))
      replace F_9 := Fld.other W33 F_9 (Or.inl (Nat.ne_of_lt (by omega)))
      replace A_9 := A_9.other W33 (Ne.symm (Nat.ne_of_lt (by omega)))
      replace F_10 := Fld.other W33 F_10 (Or.inl (Nat.ne_of_lt (by omega)))
      replace A_10 := A_10.other W33 (Ne.symm (Nat.ne_of_lt (by omega)))
      replace F_11 := Fld.other W33 F_11 (Or.inl (Nat.ne_of_lt (by omega)))
      replace A_11 := A_11.other W33 (Ne.symm (Nat.ne_of_lt (by omega)))
      replace A_4 := ARJ.set A_4 W33
      refine aloadN P d3_99 rfl rfl (n := 100) rfl ?_
      refine getF P d3_100 (hw _ (List.mem_of_getElem? (i := 22) rfl)) F_5 (n := 103) rfl ?_
      intro T P
      refine iload P d3_103 rfl (n := 105) rfl ?_
      refine iload P d3_105 rfl (n := 107) rfl ?_
      refine stI P d3_107 A_5 (u := us.toInt.toNat) ⟨by omega, by omega⟩ (by omega) (n := 108) rfl ?_
      intro T h34 P W35
      replace E_a := Exa.wr W35 E_a
      replace F_un := Fld.other W35 F_un (Or.inl (Nat.ne_of_lt (by omega)))
      replace F_us := Fld.other W35 F_us (Or.inl (Nat.ne_of_lt (by omega)))
      replace F_0 := Fld.other W35 F_0 (Or.inl (Nat.ne_of_lt (by omega)))
      replace A_0 := A_0.other W35 (Nat.ne_of_lt (by omega))
      replace F_1 := Fld.other W35 F_1 (Or.inl (Nat.ne_of_lt (by omega)))
      replace A_1 := A_1.other W35 (Nat.ne_of_lt (by omega))
      replace F_2 := Fld.other W35 F_2 (Or.inl (Nat.ne_of_lt (by omega)))
      replace A_2 := A_2.other W35 (Nat.ne_of_lt (by omega))
      replace F_3 := Fld.other W35 F_3 (Or.inl (Nat.ne_of_lt (by omega)))
      replace A_3 := A_3.other W35 (Nat.ne_of_lt (by omega))
      replace F_4 := Fld.other W35 F_4 (Or.inl (Nat.ne_of_lt (by omega)))
      replace A_4 := A_4.other W35 (Nat.ne_of_lt (by omega))
      replace F_5 := Fld.other W35 F_5 (Or.inl (Nat.ne_of_lt (by omega)))
      replace F_6 := Fld.other W35 F_6 (Or.inl (Nat.ne_of_lt (by omega)))
      replace A_6 := A_6.other W35 (Ne.symm (Nat.ne_of_lt (by omega)))
      replace F_7 := Fld.other W35 F_7 (Or.inl (Nat.ne_of_lt (by omega)))
      replace A_7 := A_7.other W35 (Ne.symm (Nat.ne_of_lt (by omega)))
      replace F_8 := Fld.other W35 F_8 (Or.inl (Nat.ne_of_lt (by omega)))
      replace A_8 := A_8.other W35 (Ne.symm (Nat.ne_of_lt (by omega)))
      replace F_9 := Fld.other W35 F_9 (Or.inl (Nat.ne_of_lt (by omega)))
      replace A_9 := A_9.other W35 (Ne.symm (Nat.ne_of_lt (by omega)))
      replace F_10 := Fld.other W35 F_10 (Or.inl (Nat.ne_of_lt (by omega)))
      replace A_10 := A_10.other W35 (Ne.symm (Nat.ne_of_lt (by omega)))
      replace F_11 := Fld.other W35 F_11 (Or.inl (Nat.ne_of_lt (by omega)))
      replace A_11 := A_11.other W35 (Ne.symm (Nat.ne_of_lt (by omega)))
      replace A_5 := ARI.set A_5 W35
      refine aloadN P d3_108 rfl rfl (n := 109) rfl ?_
      refine getF P d3_109 (hw _ (List.mem_of_getElem? (i := 24) rfl)) F_6 (n := 112) rfl ?_
      intro T P
      refine iload P d3_112 rfl (n := 114) rfl ?_
      refine lconst P d3_114 (x := (1 : Int64)) rfl (n := 115) rfl ?_
      refine stJ P d3_115 A_6 (u := us.toInt.toNat) ⟨by omega, by omega⟩ (by omega) (n := 116) rfl ?_
      intro T h36 P W37
      replace E_a := Exa.wr W37 E_a
      replace F_un := Fld.other W37 F_un (Or.inl (Nat.ne_of_lt (by omega)))
      replace F_us := Fld.other W37 F_us (Or.inl (Nat.ne_of_lt (by omega)))
      replace F_0 := Fld.other W37 F_0 (Or.inl (Nat.ne_of_lt (by omega)))
      replace A_0 := A_0.other W37 (Nat.ne_of_lt (by omega))
      replace F_1 := Fld.other W37 F_1 (Or.inl (Nat.ne_of_lt (by omega)))
      replace A_1 := A_1.other W37 (Nat.ne_of_lt (by omega))
      replace F_2 := Fld.other W37 F_2 (Or.inl (Nat.ne_of_lt (by omega)))
      replace A_2 := A_2.other W37 (Nat.ne_of_lt (by omega))
      replace F_3 := Fld.other W37 F_3 (Or.inl (Nat.ne_of_lt (by omega)))
      replace A_3 := A_3.other W37 (Nat.ne_of_lt (by omega))
      replace F_4 := Fld.other W37 F_4 (Or.inl (Nat.ne_of_lt (by omega)))
      replace A_4 := A_4.other W37 (Nat.ne_of_lt (by omega))
      replace F_5 := Fld.other W37 F_5 (Or.inl (Nat.ne_of_lt (by omega)))
      replace A_5 := A_5.other W37 (Nat.ne_of_lt (by omega))
      replace F_6 := Fld.other W37 F_6 (Or.inl (Nat.ne_of_lt (by omega)))
      replace F_7 := Fld.other W37 F_7 (Or.inl (Nat.ne_of_lt (by omega)))
      replace A_7 := A_7.other W37 (Ne.symm (Nat.ne_of_lt (by omega)))
      replace F_8 := Fld.other W37 F_8 (Or.inl (Nat.ne_of_lt (by omega)))
      replace A_8 := A_8.other W37 (Ne.symm (Nat.ne_of_lt (by omega)))
      replace F_9 := Fld.other W37 F_9 (Or.inl (Nat.ne_of_lt (by omega)))
      replace A_9 := A_9.other W37 (Ne.symm (Nat.ne_of_lt (by omega)))
      replace F_10 := Fld.other W37 F_10 (Or.inl (Nat.ne_of_lt (by omega)))
      replace A_10 := A_10.other W37 (Ne.symm (Nat.ne_of_lt (by omega)))
      replace F_11 := Fld.other W37 F_11 (Or.inl (Nat.ne_of_lt (by omega)))
      replace A_11 := A_11.other W37 (Ne.symm (Nat.ne_of_lt (by omega)))
      replace A_6 := ARJ.set A_6 W37
      refine aloadN P d3_116 rfl rfl (n := 117) rfl ?_
      refine getF P d3_117 (hw _ (List.mem_of_getElem? (i := 26) rfl)) F_7 (n := 120) rfl ?_
      intro T P
      refine iload P d3_120 rfl (n := 122) rfl ?_
      refine iload P d3_122 rfl (n := 124) rfl ?_
      refine stI P d3_124 A_7 (u := us.toInt.toNat) ⟨by omega, by omega⟩ (by omega) (n := 125) rfl ?_
      intro T h38 P W39
      replace E_a := Exa.wr W39 E_a
      replace F_un := Fld.other W39 F_un (Or.inl (Nat.ne_of_lt (by omega)))
      replace F_us := Fld.other W39 F_us (Or.inl (Nat.ne_of_lt (by omega)))
      replace F_0 := Fld.other W39 F_0 (Or.inl (Nat.ne_of_lt (by omega)))
      replace A_0 := A_0.other W39 (Nat.ne_of_lt (by omega))
      replace F_1 := Fld.other W39 F_1 (Or.inl (Nat.ne_of_lt (by omega)))
      replace A_1 := A_1.other W39 (Nat.ne_of_lt (by omega))
      replace F_2 := Fld.other W39 F_2 (Or.inl (Nat.ne_of_lt (by omega)))
      replace A_2 := A_2.other W39 (Nat.ne_of_lt (by omega))
      replace F_3 := Fld.other W39 F_3 (Or.inl (Nat.ne_of_lt (by omega)))
      replace A_3 := A_3.other W39 (Nat.ne_of_lt (by omega))
      replace F_4 := Fld.other W39 F_4 (Or.inl (Nat.ne_of_lt (by omega)))
      replace A_4 := A_4.other W39 (Nat.ne_of_lt (by omega))
      replace F_5 := Fld.other W39 F_5 (Or.inl (Nat.ne_of_lt (by omega)))
      replace A_5 := A_5.other W39 (Nat.ne_of_lt (by omega))
      replace F_6 := Fld.other W39 F_6 (Or.inl (Nat.ne_of_lt (by omega)))
      replace A_6 := A_6.other W39 (Nat.ne_of_lt (by omega))
      replace F_7 := Fld.other W39 F_7 (Or.inl (Nat.ne_of_lt (by omega)))
      replace F_8 := Fld.other W39 F_8 (Or.inl (Nat.ne_of_lt (by omega)))
      replace A_8 := A_8.other W39 (Ne.symm (Nat.ne_of_lt (by omega)))
      replace F_9 := Fld.other W39 F_9 (Or.inl (Nat.ne_of_lt (by omega)))
      replace A_9 := A_9.other W39 (Ne.symm (Nat.ne_of_lt (by omega)))
      replace F_10 := Fld.other W39 F_10 (Or.inl (Nat.ne_of_lt (by omega)))
      replace A_10 := A_10.other W39 (Ne.symm (Nat.ne_of_lt (by omega)))
      replace F_11 := Fld.other W39 F_11 (Or.inl (Nat.ne_of_lt (by omega)))
      replace A_11 := A_11.other W39 (Ne.symm (Nat.ne_of_lt (by omega)))
      replace A_7 := ARI.set A_7 W39
      refine aloadN P d3_125 rfl rfl (n := 126) rfl ?_
      refine getF P d3_126 (hw _ (List.mem_of_getElem? (i := 32) rfl)) F_9 (n := 129) rfl ?_
      intro T P
      refine iload P d3_129 rfl (n := 131) rfl ?_
      refine iconst P d3_131 (x := (0 : Int32)) rfl (n := 132) rfl ?_
      refine stI P d3_132 A_9 (u := us.toInt.toNat) ⟨by omega, by omega⟩ (by omega) (n := 133) rfl ?_
      intro T h40 P W41
      replace E_a := Exa.wr W41 E_a
      replace F_un := Fld.other W41 F_un (Or.inl (Nat.ne_of_lt (by omega)))
      replace F_us := Fld.other W41 F_us (Or.inl (Nat.ne_of_lt (by omega)))
      replace F_0 := Fld.other W41 F_0 (Or.inl (Nat.ne_of_lt (by omega)))
      replace A_0 := A_0.other W41 (Nat.ne_of_lt (by omega))
      replace F_1 := Fld.other W41 F_1 (Or.inl (Nat.ne_of_lt (by omega)))
      replace A_1 := A_1.other W41 (Nat.ne_of_lt (by omega))
      replace F_2 := Fld.other W41 F_2 (Or.inl (Nat.ne_of_lt (by omega)))
      replace A_2 := A_2.other W41 (Nat.ne_of_lt (by omega))
      replace F_3 := Fld.other W41 F_3 (Or.inl (Nat.ne_of_lt (by omega)))
      replace A_3 := A_3.other W41 (Nat.ne_of_lt (by omega))
      replace F_4 := Fld.other W41 F_4 (Or.inl (Nat.ne_of_lt (by omega)))
      replace A_4 := A_4.other W41 (Nat.ne_of_lt (by omega))
      replace F_5 := Fld.other W41 F_5 (Or.inl (Nat.ne_of_lt (by omega)))
      replace A_5 := A_5.other W41 (Nat.ne_of_lt (by omega))
      replace F_6 := Fld.other W41 F_6 (Or.inl (Nat.ne_of_lt (by omega)))
      replace A_6 := A_6.other W41 (Nat.ne_of_lt (by omega))
      replace F_7 := Fld.other W41 F_7 (Or.inl (Nat.ne_of_lt (by omega)))
      replace A_7 := A_7.other W41 (Nat.ne_of_lt (by omega))
      replace F_8 := Fld.other W41 F_8 (Or.inl (Nat.ne_of_lt (by omega)))
      replace A_8 := A_8.other W41 (Nat.ne_of_lt (by omega))
      replace F_9 := Fld.other W41 F_9 (Or.inl (Nat.ne_of_lt (by omega)))
      replace F_10 := Fld.other W41 F_10 (Or.inl (Nat.ne_of_lt (by omega)))
      replace A_10 := A_10.other W41 (Ne.symm (Nat.ne_of_lt (by omega)))
      replace F_11 := Fld.other W41 F_11 (Or.inl (Nat.ne_of_lt (by omega)))
      replace A_11 := A_11.other W41 (Ne.symm (Nat.ne_of_lt (by omega)))
      replace A_9 := ARI.set A_9 W41
      refine aloadN P d3_133 rfl rfl (n := 134) rfl ?_
      refine iload P d3_134 rfl (n := 136) rfl ?_
      have O9 : own_OS Z n0 h40 a un (us + (1 : Int32)) ge gl := ⟨_, _, _, _, _, _, _, _, _, _, _, _, _, _, _, _, _, _, _, _, _, _, E_a, F_un, F_us, F_0, F_1, F_2, F_3, F_4, F_5, F_6, F_7, F_8, F_9, F_10, F_11, A_0, A_1, A_2, A_3, A_4, A_5, A_6, A_7, A_8, A_9, A_10, A_11, lo_a, c0, c1, c2, c3, c4, c5, c6, c7, c8, c9, c10, c11⟩
      refine callP P d3_136 (a := a) (argsL := [(.int us)]) (rest := []) (c_queue l Z a0 hw a us un (us + (1 : Int32)) ge gl h40 n0 P.low O9 (by omega) (by omega)) E_a (hw _ (List.mem_of_getElem? (i := 48) rfl)) (hw _ (List.mem_of_getElem? (i := 49) rfl)) (hw _ (List.mem_of_getElem? (i := 2) rfl)) (hw _ (List.mem_of_getElem? (i := 50) rfl)) (hw _ (List.mem_of_getElem? (i := 3) rfl)) (hw _ (List.mem_of_getElem? (i := 51) rfl)) (by decide) pd_0 rfl rfl rfl ⟨by decide, Nat.le_of_ble_eq_true rfl, by decide, by decide⟩ (n := 139) rfl ?_
      rintro T h42 v P ⟨rfl, O8⟩
      show Jvm.Own.Ends p e below s rm_c_open n0 (fun v h => (un.toInt = 0 → v = some (.int us) ∧ own_OS Z n0 h a un (us + 1) (ovr (ovr ge us.toInt.toNat (ge 0)) 0 us) (ovr (ovr gl us.toInt.toNat 0) (ge 0).toInt.toNat us)) ∧ (¬ un.toInt = 0 → v = some (.int un) ∧ own_OS Z n0 h a (gl un.toInt.toNat) us (ovr (ovr ge un.toInt.toNat (ge 0)) 0 un) (ovr (ovr gl un.toInt.toNat 0) (ge 0).toInt.toNat un))) T (mkF m 139 #[.val (.ref a), .val (.long p1), .second, .val (.int p2), .val (.long p3), .second, .val (.int p4), .val (.int p5), .val (.int us)] [])
      refine iload P d3_139 rfl (n := 141) rfl ?_
      refine retI P d3_141 (by decide) (by decide) ?_
      exact ⟨fun _ => ⟨rfl, O8⟩, fun q => absurd hc4 q⟩
    · -- pc 16 not taken
      replace hc16 : us.toInt = (1024 : Int) := hc16
      exfalso; omega
theorem d6_0 : decode prog_16_method_18_code 0 = .ok (.aload_n 0, 1) := by decide +kernel
theorem d6_1 : decode prog_16_method_18_code 1 = .ok (.getfield 46, 3) := by decide +kernel
theorem d6_4 : decode prog_16_method_18_code 4 = .ok (.aload_n 0, 1) := by decide +kernel
theorem d6_5 : decode prog_16_method_18_code 5 = .ok (.getfield 43, 3) := by decide +kernel
theorem d6_8 : decode prog_16_method_18_code 8 = .ok (.iload_n 1, 1) := by decide +kernel
theorem d6_9 : decode prog_16_method_18_code 9 = .ok (.iaload, 1) := by decide +kernel
theorem d6_10 : decode prog_16_method_18_code 10 = .ok (.aload_n 0, 1) := by decide +kernel
theorem d6_11 : decode prog_16_method_18_code 11 = .ok (.getfield 46, 3) := by decide +kernel
theorem d6_14 : decode prog_16_method_18_code 14 = .ok (.iload_n 1, 1) := by decide +kernel
theorem d6_15 : decode prog_16_method_18_code 15 = .ok (.iaload, 1) := by decide +kernel
theorem d6_16 : decode prog_16_method_18_code 16 = .ok (.iastore, 1) := by decide +kernel
theorem d6_17 : decode prog_16_method_18_code 17 = .ok (.aload_n 0, 1) := by decide +kernel
theorem d6_18 : decode prog_16_method_18_code 18 = .ok (.getfield 43, 3) := by decide +kernel
theorem d6_21 : decode prog_16_method_18_code 21 = .ok (.aload_n 0, 1) := by decide +kernel
theorem d6_22 : decode prog_16_method_18_code 22 = .ok (.getfield 46, 3) := by decide +kernel
theorem d6_25 : decode prog_16_method_18_code 25 = .ok (.iload_n 1, 1) := by decide +kernel
theorem d6_26 : decode prog_16_method_18_code 26 = .ok (.iaload, 1) := by decide +kernel
theorem d6_27 : decode prog_16_method_18_code 27 = .ok (.aload_n 0, 1) := by decide +kernel
theorem d6_28 : decode prog_16_method_18_code 28 = .ok (.getfield 43, 3) := by decide +kernel
theorem d6_31 : decode prog_16_method_18_code 31 = .ok (.iload_n 1, 1) := by decide +kernel
theorem d6_32 : decode prog_16_method_18_code 32 = .ok (.iaload, 1) := by decide +kernel
theorem d6_33 : decode prog_16_method_18_code 33 = .ok (.iastore, 1) := by decide +kernel
theorem d6_34 : decode prog_16_method_18_code 34 = .ok (.return_, 1) := by decide +kernel
theorem ef_6 (m : MethodId) (a : Addr) (u : Int32) : entryFrame m #[(.ref a), (.int u)] 2 = mkF m 0 #[.val (.ref a), .val (.int u)] [] := by first | (simp [entryFrame, mkF, argsToLocals, Value.category]; done) | rfl
abbrev rm_c_unq : Room := { frames := 0, cells := 0, slots := 0, locals := 0 }
set_option maxRecDepth 65536 in
set_option maxHeartbeats 40000000 in
theorem c_unq (l : Launch) (Z : State) (a0 : Array Value) (hw : ∀ d ∈ tables_1, d.before a0 Z = true) (a : Addr) (u : Int32) (un us : Int32) (ge gl : Nat → Int32) (h0 : Heap) (n0 : Nat) (low : n0 ≤ h0.size) (O : own_OS Z n0 h0 a un us ge gl) (hu : 0 ≤ u.toInt ∧ u.toInt < 1024) (h1u : 0 ≤ (ge u.toInt.toNat).toInt ∧ (ge u.toInt.toNat).toInt < 1024) (h2u : 0 ≤ (gl u.toInt.toNat).toInt ∧ (gl u.toInt.toNat).toInt < 1024) (h3u : 0 ≤ ((ovr gl (ge u.toInt.toNat).toInt.toNat (gl u.toInt.toNat)) u.toInt.toNat).toInt ∧ ((ovr gl (ge u.toInt.toNat).toInt.toNat (gl u.toInt.toNat)) u.toInt.toNat).toInt < 1024) :
    Meth l Z (⟨"com/example/sessionloom/sessionloom/OpenSessions", "unqueue", "(I)V"⟩ : MethodName) prog_16_method_18_code 2 none rm_c_unq #[(.ref a), (.int u)] h0 n0 (fun v h => v = none ∧ own_OS Z n0 h a un us (ovr ge ((ovr gl (ge u.toInt.toNat).toInt.toNat (gl u.toInt.toNat)) u.toInt.toNat).toInt.toNat (ge u.toInt.toNat)) (ovr gl (ge u.toInt.toNat).toInt.toNat (gl u.toInt.toNat))) := by
  refine Meth.of (plainFor_of_name pn_0) low ?_
  intro p e s m args below meth c T P
  refine Ends.cast (ef_6 m a u) ?_
  obtain ⟨y0, y1, y2, y3, y4, y5, y6, y7, y8, y9, y10, y11, g0, g1, g2, g3, g4, g5, g6, g7, g8, g9, E_a, F_un, F_us, F_0, F_1, F_2, F_3, F_4, F_5, F_6, F_7, F_8, F_9, F_10, F_11, A_0, A_1, A_2, A_3, A_4, A_5, A_6, A_7, A_8, A_9, A_10, A_11, lo_a, c0, c1, c2, c3, c4, c5, c6, c7, c8, c9, c10, c11⟩ := O
  refine aloadN P d6_0 rfl rfl (n := 1) rfl ?_
  refine getF P d6_1 (hw _ (List.mem_of_getElem? (i := 36) rfl)) F_11 (n := 4) rfl ?_
  intro T P
  refine aloadN P d6_4 rfl rfl (n := 5) rfl ?_
  refine getF P d6_5 (hw _ (List.mem_of_getElem? (i := 34) rfl)) F_10 (n := 8) rfl ?_
  intro T P
  refine iloadN P d6_8 rfl (n := 9) rfl ?_
  refine ialoadI P d6_9 A_10 (u := u.toInt.toNat) ⟨by omega, by omega⟩ (n := 10) rfl ?_
  refine aloadN P d6_10 rfl rfl (n := 11) rfl ?_
  refine getF P d6_11 (hw _ (List.mem_of_getElem? (i := 36) rfl)) F_11 (n := 14) rfl ?_
  intro T P
  refine iloadN P d6_14 rfl (n := 15) rfl ?_
  refine ialoadI P d6_15 A_11 (u := u.toInt.toNat) ⟨by omega, by omega⟩ (n := 16) rfl ?_
  refine stI P d6_16 A_11 (u := (ge u.toInt.toNat).toInt.toNat) ⟨by omega, by omega⟩ (by omega) (n := 17) rfl ?_
  intro T h1 P W2
  replace E_a := Exa.wr W2 E_a
  replace F_un := Fld.other W2 F_un (Or.inl (Nat.ne_of_lt (by omega)))
  replace F_us := Fld.other W2 F_us (Or.inl (Nat.ne_of_lt (by omega)))
  replace F_0 := Fld.other W2 F_0 (Or.inl (Nat.ne_of_lt (by omega)))
  replace A_0 := A_0.other W2 (Nat.ne_of_lt (by omega))
  replace F_1 := Fld.other W2 F_1 (Or.inl (Nat.ne_of_lt (by omega)))
  replace A_1 := A_1.other W2 (Nat.ne_of_lt (by omega))
  replace F_2 := Fld.other W2 F_2 (Or.inl (Nat.ne_of_lt (by omega)))
  replace A_2 := A_2.other W2 (Nat.ne_of_lt (by omega))
  replace F_3 := Fld.other W2 F_3 (Or.inl (Nat.ne_of_lt (by omega)))
  replace A_3 := A_3.other W2 (Nat.ne_of_lt (by omega))
  replace F_4 := Fld.other W2 F_4 (Or.inl (Nat.ne_of_lt (by omega)))
  replace A_4 := A_4.other W2 (Nat.ne_of_lt (by omega))
  replace F_5 := Fld.other W2 F_5 (Or.inl (Nat.ne_of_lt (by omega)))
  replace A_5 := A_5.other W2 (Nat.ne_of_lt (by omega))
  replace F_6 := Fld.other W2 F_6 (Or.inl (Nat.ne_of_lt (by omega)))
  replace A_6 := A_6.other W2 (Nat.ne_of_lt (by omega))
  replace F_7 := Fld.other W2 F_7 (Or.inl (Nat.ne_of_lt (by omega)))
  replace A_7 := A_7.other W2 (Nat.ne_of_lt (by omega))
  replace F_8 := Fld.other W2 F_8 (Or.inl (Nat.ne_of_lt (by omega)))
  replace A_8 := A_8.other W2 (Nat.ne_of_lt (by omega))
  replace F_9 := Fld.other W2 F_9 (Or.inl (Nat.ne_of_lt (by omega)))
  replace A_9 := A_9.other W2 (Nat.ne_of_lt (by omega))
  replace F_10 := Fld.other W2 F_10 (Or.inl (Nat.ne_of_lt (by omega)))
  replace A_10 := A_10.other W2 (Nat.ne_of_lt (by omega))
  replace F_11 := Fld.other W2 F_11 (Or.inl (Nat.ne_of_lt (by omega)))
  replace A_11 := ARI.set A_11 W2
  refine aloadN P d6_17 rfl rfl (n := 18) rfl ?_
  refine getF P d6_18 (hw _ (List.mem_of_getElem? (i := 34) rfl)) F_10 (n := 21) rfl ?_
  intro T P
  refine aloadN P d6_21 rfl rfl (n := 22) rfl ?_
  refine getF P d6_22 (hw _ (List.mem_of_getElem? (i := 36) rfl)) F_11 (n := 25) rfl ?_
  intro T P
  refine iloadN P d6_25 rfl (n := 26) rfl ?_
  refine ialoadI P d6_26 A_11 (u := u.toInt.toNat) ⟨by omega, by omega⟩ (n := 27) rfl ?_
  refine aloadN P d6_27 rfl rfl (n := 28) rfl ?_
  refine getF P d6_28 (hw _ (List.mem_of_getElem? (i := 34) rfl)) F_10 (n := 31) rfl ?_
  intro T P
  refine iloadN P d6_31 rfl (n := 32) rfl ?_
  refine ialoadI P d6_32 A_10 (u := u.toInt.toNat) ⟨by omega, by omega⟩ (n := 33) rfl ?_
  refine stI P d6_33 A_10 (u := ((ovr gl (ge u.toInt.toNat).toInt.toNat ((gl u.toInt.toNat))) u.toInt.toNat).toInt.toNat) ⟨by omega, by omega⟩ (by omega) (n := 34) rfl ?_
  intro T h3 P W4
  replace E_a := Exa.wr W4 E_a
  replace F_un := Fld.other W4 F_un (Or.inl (Nat.ne_of_lt (by omega)))
  replace F_us := Fld.other W4 F_us (Or.inl (Nat.ne_of_lt (by omega)))
  replace F_0 := Fld.other W4 F_0 (Or.inl (Nat.ne_of_lt (by omega)))
  replace A_0 := A_0.other W4 (Nat.ne_of_lt (by omega))
  replace F_1 := Fld.other W4 F_1 (Or.inl (Nat.ne_of_lt (by omega)))
  replace A_1 := A_1.other W4 (Nat.ne_of_lt (by omega))
  replace F_2 := Fld.other W4 F_2 (Or.inl (Nat.ne_of_lt (by omega)))
  replace A_2 := A_2.other W4 (Nat.ne_of_lt (by omega))
  replace F_3 := Fld.other W4 F_3 (Or.inl (Nat.ne_of_lt (by omega)))
  replace A_3 := A_3.other W4 (Nat.ne_of_lt (by omega))
  replace F_4 := Fld.other W4 F_4 (Or.inl (Nat.ne_of_lt (by omega)))
  replace A_4 := A_4.other W4 (Nat.ne_of_lt (by omega))
  replace F_5 := Fld.other W4 F_5 (Or.inl (Nat.ne_of_lt (by omega)))
  replace A_5 := A_5.other W4 (Nat.ne_of_lt (by omega))
  replace F_6 := Fld.other W4 F_6 (Or.inl (Nat.ne_of_lt (by omega)))
  replace A_6 := A_6.other W4 (Nat.ne_of_lt (by omega))
  replace F_7 := Fld.other W4 F_7 (Or.inl (Nat.ne_of_lt (by omega)))
  replace A_7 := A_7.other W4 (Nat.ne_of_lt (by omega))
  replace F_8 := Fld.other W4 F_8 (Or.inl (Nat.ne_of_lt (by omega)))
  replace A_8 := A_8.other W4 (Nat.ne_of_lt (by omega))
  replace F_9 := Fld.other W4 F_9 (Or.inl (Nat.ne_of_lt (by omega)))
  replace A_9 := A_9.other W4 (Nat.ne_of_lt (by omega))
  replace F_10 := Fld.other W4 F_10 (Or.inl (Nat.ne_of_lt (by omega)))
  replace F_11 := Fld.other W4 F_11 (Or.inl (Nat.ne_of_lt (by omega)))
  replace A_11 := A_11.other W4 (Ne.symm (Nat.ne_of_lt (by omega)))
  replace A_10 := ARI.set A_10 W4
  refine retV P d6_34 (by decide) (by decide) ?_
  exact ⟨rfl, ⟨_, _, _, _, _, _, _, _, _, _, _, _, _, _, _, _, _, _, _, _, _, _, E_a, F_un, F_us, F_0, F_1, F_2, F_3, F_4, F_5, F_6, F_7, F_8, F_9, F_10, F_11, A_0, A_1, A_2, A_3, A_4, A_5, A_6, A_7, A_8, A_9, A_10, A_11, lo_a, c0, c1, c2, c3, c4, c5, c6, c7, c8, c9, c10, c11⟩⟩
theorem d5_0 : decode prog_16_method_6_code 0 = .ok (.aload_n 0, 1) := by decide +kernel
theorem d5_1 : decode prog_16_method_6_code 1 = .ok (.iload_n 1, 1) := by decide +kernel
theorem d5_2 : decode prog_16_method_6_code 2 = .ok (.invokevirtual 67, 3) := by decide +kernel
theorem d5_5 : decode prog_16_method_6_code 5 = .ok (.aload_n 0, 1) := by decide +kernel
theorem d5_6 : decode prog_16_method_6_code 6 = .ok (.getfield 36, 3) := by decide +kernel
theorem d5_9 : decode prog_16_method_6_code 9 = .ok (.iload_n 1, 1) := by decide +kernel
theorem d5_10 : decode prog_16_method_6_code 10 = .ok (.aconst_null, 1) := by decide +kernel
theorem d5_11 : decode prog_16_method_6_code 11 = .ok (.aastore, 1) := by decide +kernel
theorem d5_12 : decode prog_16_method_6_code 12 = .ok (.aload_n 0, 1) := by decide +kernel
theorem d5_13 : decode prog_16_method_6_code 13 = .ok (.getfield 46, 3) := by decide +kernel
theorem d5_16 : decode prog_16_method_6_code 16 = .ok (.iload_n 1, 1) := by decide +kernel
theorem d5_17 : decode prog_16_method_6_code 17 = .ok (.aload_n 0, 1) := by decide +kernel
theorem d5_18 : decode prog_16_method_6_code 18 = .ok (.getfield 49, 3) := by decide +kernel
theorem d5_21 : decode prog_16_method_6_code 21 = .ok (.iastore, 1) := by decide +kernel
theorem d5_22 : decode prog_16_method_6_code 22 = .ok (.aload_n 0, 1) := by decide +kernel
theorem d5_23 : decode prog_16_method_6_code 23 = .ok (.iload_n 1, 1) := by decide +kernel
theorem d5_24 : decode prog_16_method_6_code 24 = .ok (.putfield 49, 3) := by decide +kernel
theorem d5_27 : decode prog_16_method_6_code 27 = .ok (.return_, 1) := by decide +kernel
theorem ef_5 (m : MethodId) (a : Addr) (u : Int32) : entryFrame m #[(.ref a), (.int u)] 2 = mkF m 0 #[.val (.ref a), .val (.int u)] [] := by first | (simp [entryFrame, mkF, argsToLocals, Value.category]; done) | rfl
abbrev rm_c_end : Room := { frames := 1, cells := 0, slots := 0, locals := 13 }
set_option maxRecDepth 65536 in
set_option maxHeartbeats 40000000 in
theorem c_end (l : Launch) (Z : State) (a0 : Array Value) (hw : ∀ d ∈ tables_1, d.before a0 Z = true) (a : Addr) (u : Int32) (un us : Int32) (ge gl : Nat → Int32) (h0 : Heap) (n0 : Nat) (low : n0 ≤ h0.size) (O : own_OS Z n0 h0 a un us ge gl) (hu : 0 ≤ u.toInt ∧ u.toInt < 1024) (h1u : 0 ≤ (ge u.toInt.toNat).toInt ∧ (ge u.toInt.toNat).toInt < 1024) (h2u : 0 ≤ (gl u.toInt.toNat).toInt ∧ (gl u.toInt.toNat).toInt < 1024) (h3u : 0 ≤ ((ovr gl (ge u.toInt.toNat).toInt.toNat (gl u.toInt.toNat)) u.toInt.toNat).toInt ∧ ((ovr gl (ge u.toInt.toNat).toInt.toNat (gl u.toInt.toNat)) u.toInt.toNat).toInt < 1024) :
    Meth l Z (⟨"com/example/sessionloom/sessionloom/OpenSessions", "end", "(I)V"⟩ : MethodName) prog_16_method_6_code 2 none rm_c_end #[(.ref a), (.int u)] h0 n0 (fun v h => v = none ∧ own_OS Z n0 h a u us (ovr ge ((ovr gl (ge u.toInt.toNat).toInt.toNat (gl u.toInt.toNat)) u.toInt.toNat).toInt.toNat (ge u.toInt.toNat)) (ovr (ovr gl (ge u.toInt.toNat).toInt.toNat (gl u.toInt.toNat)) u.toInt.toNat un)) := by
  refine Meth.of (plainFor_of_name pn_0) low ?_
  intro p e s m args below meth c T P
  refine Ends.cast (ef_5 m a u) ?_
  obtain ⟨y0, y1, y2, y3, y4, y5, y6, y7, y8, y9, y10, y11, g0, g1, g2, g3, g4, g5, g6, g7, g8, g9, E_a, F_un, F_us, F_0, F_1, F_2, F_3, F_4, F_5, F_6, F_7, F_8, F_9, F_10, F_11, A_0, A_1, A_2, A_3, A_4, A_5, A_6, A_7, A_8, A_9, A_10, A_11, lo_a, c0, c1, c2, c3, c4, c5, c6, c7, c8, c9, c10, c11⟩ := O
  refine aloadN P d5_0 rfl rfl (n := 1) rfl ?_
  refine iloadN P d5_1 rfl (n := 2) rfl ?_
  have O9 : own_OS Z n0 h0 a un us ge gl := ⟨_, _, _, _, _, _, _, _, _, _, _, _, _, _, _, _, _, _, _, _, _, _, E_a, F_un, F_us, F_0, F_1, F_2, F_3, F_4, F_5, F_6, F_7, F_8, F_9, F_10, F_11, A_0, A_1, A_2, A_3, A_4, A_5, A_6, A_7, A_8, A_9, A_10, A_11, lo_a, c0, c1, c2, c3, c4, c5, c6, c7, c8, c9, c10, c11⟩
  refine callP P d5_2 (a := a) (argsL := [(.int u)]) (rest := []) (c_unq l Z a0 hw a u un us ge gl h0 n0 P.low O9 hu h1u h2u h3u) E_a (hw _ (List.mem_of_getElem? (i := 60) rfl)) (hw _ (List.mem_of_getElem? (i := 61) rfl)) (hw _ (List.mem_of_getElem? (i := 2) rfl)) (hw _ (List.mem_of_getElem? (i := 62) rfl)) (hw _ (List.mem_of_getElem? (i := 3) rfl)) (hw _ (List.mem_of_getElem? (i := 63) rfl)) (by decide) pd_0 rfl rfl rfl ⟨by decide, Nat.le_of_ble_eq_true rfl, by decide, by decide⟩ (n := 5) rfl ?_
  rintro T h1 v P ⟨rfl, O8⟩
  show Jvm.Own.Ends p e below s rm_c_end n0 (fun v h => v = none ∧ own_OS Z n0 h a u us (ovr ge ((ovr gl (ge u.toInt.toNat).toInt.toNat (gl u.toInt.toNat)) u.toInt.toNat).toInt.toNat (ge u.toInt.toNat)) (ovr (ovr gl (ge u.toInt.toNat).toInt.toNat (gl u.toInt.toNat)) u.toInt.toNat un)) T (mkF m 5 #[.val (.ref a), .val (.int u)] [])
  obtain ⟨y0, y1, y2, y3, y4, y5, y6, y7, y8, y9, y10, y11, g0, g1, g2, g3, g4, g5, g6, g7, g8, g9, E_a, F_un, F_us, F_0, F_1, F_2, F_3, F_4, F_5, F_6, F_7, F_8, F_9, F_10, F_11, A_0, A_1, A_2, A_3, A_4, A_5, A_6, A_7, A_8, A_9, A_10, A_11, lo_a, c0, c1, c2, c3, c4, c5, c6, c7, c8, c9, c10, c11⟩ := O8
  refine aloadN P d5_5 rfl rfl (n := 6) rfl ?_
  refine getF P d5_6 (hw _ (List.mem_of_getElem? (i := 30) rfl)) F_8 (n := 9) rfl ?_
  intro T P
  refine iloadN P d5_9 rfl (n := 10) rfl ?_
  refine aconstNull P d5_10 (n := 11) rfl ?_
  refine stN P d5_11 A_8 rfl (u := u.toInt.toNat) ⟨by omega, by omega⟩ (by omega) (n := 12) rfl ?_
  intro T h2 P W3
  replace E_a := Exa.wr W3 E_a
  replace F_un := Fld.other W3 F_un (Or.inl (Nat.ne_of_lt (by omega)))
  replace F_us := Fld.other W3 F_us (Or.inl (Nat.ne_of_lt (by omega)))
  replace F_0 := Fld.other W3 F_0 (Or.inl (Nat.ne_of_lt (by omega)))
  replace A_0 := A_0.other W3 (Nat.ne_of_lt (by omega))
  replace F_1 := Fld.other W3 F_1 (Or.inl (Nat.ne_of_lt (by omega)))
  replace A_1 := A_1.other W3 (Nat.ne_of_lt (by omega))
  replace F_2 := Fld.other W3 F_2 (Or.inl (Nat.ne_of_lt (by omega)))
  replace A_2 := A_2.other W3 (Nat.ne_of_lt (by omega))
  replace F_3 := Fld.other W3 F_3 (Or.inl (Nat.ne_of_lt (by omega)))
  replace A_3 := A_3.other W3 (Nat.ne_of_lt (by omega))
  replace F_4 := Fld.other W3 F_4 (Or.inl (Nat.ne_of_lt (by omega)))
  replace A_4 := A_4.other W3 (Nat.ne_of_lt (by omega))
  replace F_5 := Fld.other W3 F_5 (Or.inl (Nat.ne_of_lt (by omega)))
  replace A_5 := A_5.other W3 (Nat.ne_of_lt (by omega))
  replace F_6 := Fld.other W3 F_6 (Or.inl (Nat.ne_of_lt (by omega)))
  replace A_6 := A_6.other W3 (Nat.ne_of_lt (by omega))
  replace F_7 := Fld.other W3 F_7 (Or.inl (Nat.ne_of_lt (by omega)))
  replace A_7 := A_7.other W3 (Nat.ne_of_lt (by omega))
  replace F_8 := Fld.other W3 F_8 (Or.inl (Nat.ne_of_lt (by omega)))
  replace F_9 := Fld.other W3 F_9 (Or.inl (Nat.ne_of_lt (by omega)))
  replace A_9 := A_9.other W3 (Ne.symm (Nat.ne_of_lt (by omega)))
  replace F_10 := Fld.other W3 F_10 (Or.inl (Nat.ne_of_lt (by omega)))
  replace A_10 := A_10.other W3 (Ne.symm (Nat.ne_of_lt (by omega)))
  replace F_11 := Fld.other W3 F_11 (Or.inl (Nat.ne_of_lt (by omega)))
  replace A_11 := A_11.other W3 (Ne.symm (Nat.ne_of_lt (by omega)))
  replace A_8 := AR.set A_8 W3
  refine aloadN P d5_12 rfl rfl (n := 13) rfl ?_
  refine getF P d5_13 (hw _ (List.mem_of_getElem? (i := 36) rfl)) F_11 (n := 16) rfl ?_
  intro T P
  refine iloadN P d5_16 rfl (n := 17) rfl ?_
  refine aloadN P d5_17 rfl rfl (n := 18) rfl ?_
  refine getF P d5_18 (hw _ (List.mem_of_getElem? (i := 38) rfl)) F_un (n := 21) rfl ?_
  intro T P
  refine stI P d5_21 A_11 (u := u.toInt.toNat) ⟨by omega, by omega⟩ (by omega) (n := 22) rfl ?_
  intro T h4 P W5
  replace E_a := Exa.wr W5 E_a
  replace F_un := Fld.other W5 F_un (Or.inl (Nat.ne_of_lt (by omega)))
  replace F_us := Fld.other W5 F_us (Or.inl (Nat.ne_of_lt (by omega)))
  replace F_0 := Fld.other W5 F_0 (Or.inl (Nat.ne_of_lt (by omega)))
  replace A_0 := A_0.other W5 (Nat.ne_of_lt (by omega))
  replace F_1 := Fld.other W5 F_1 (Or.inl (Nat.ne_of_lt (by omega)))
  replace A_1 := A_1.other W5 (Nat.ne_of_lt (by omega))
  replace F_2 := Fld.other W5 F_2 (Or.inl (Nat.ne_of_lt (by omega)))
  replace A_2 := A_2.other W5 (Nat.ne_of_lt (by omega))
  replace F_3 := Fld.other W5 F_3 (Or.inl (Nat.ne_of_lt (by omega)))
  replace A_3 := A_3.other W5 (Nat.ne_of_lt (by omega))
  replace F_4 := Fld.other W5 F_4 (Or.inl (Nat.ne_of_lt (by omega)))
  replace A_4 := A_4.other W5 (Nat.ne_of_lt (by omega))
  replace F_5 := Fld.other W5 F_5 (Or.inl (Nat.ne_of_lt (by omega)))
  replace A_5 := A_5.other W5 (Nat.ne_of_lt (by omega))
  replace F_6 := Fld.other W5 F_6 (Or.inl (Nat.ne_of_lt (by omega)))
  replace A_6 := A_6.other W5 (Nat.ne_of_lt (by omega))
  replace F_7 := Fld.other W5 F_7 (Or.inl (Nat.ne_of_lt (by omega)))
  replace A_7 := A_7.other W5 (Nat.ne_of_lt (by omega))
  replace F_8 := Fld.other W5 F_8 (Or.inl (Nat.ne_of_lt (by omega)))
  replace A_8 := A_8.other W5 (Nat.ne_of_lt (by omega))
  replace F_9 := Fld.other W5 F_9 (Or.inl (Nat.ne_of_lt (by omega)))
  replace A_9 := A_9.other W5 (Nat.ne_of_lt (by omega))
  replace F_10 := Fld.other W5 F_10 (Or.inl (Nat.ne_of_lt (by omega)))
  replace A_10 := A_10.other W5 (Nat.ne_of_lt (by omega))
  replace F_11 := Fld.other W5 F_11 (Or.inl (Nat.ne_of_lt (by omega)))
  replace A_11 := ARI.set A_11 W5
  refine aloadN P d5_22 rfl rfl (n := 23) rfl ?_
  refine iloadN P d5_23 rfl (n := 24) rfl ?_
  refine putF P d5_24 (hw _ (List.mem_of_getElem? (i := 38) rfl)) F_un E_a (Or.inl (hw _ (List.mem_of_getElem? (i := 39) rfl))) (hw _ (List.mem_of_getElem? (i := 2) rfl)) (ty := .int) (by decide) rfl rfl lo_a (n := 27) rfl ?_
  intro T h6 P W7
  replace E_a := Exa.wr W7 E_a
  replace F_us := Fld.other W7 F_us (Or.inr (slot_ne (Or.inl (hw _ (List.mem_of_getElem? (i := 41) rfl))) (Or.inl (hw _ (List.mem_of_getElem? (i := 39) rfl))) (by decide) (t := .int) (t' := .int) (by decide) (by decide)))
  replace F_0 := Fld.other W7 F_0 (Or.inr (slot_ne (Or.inl (hw _ (List.mem_of_getElem? (i := 12) rfl))) (Or.inl (hw _ (List.mem_of_getElem? (i := 39) rfl))) (by decide) (t := (.array .long)) (t' := .int) (by decide) (by decide)))
  replace A_0 := A_0.other W7 (Ne.symm (Nat.ne_of_lt (by omega)))
  replace F_1 := Fld.other W7 F_1 (Or.inr (slot_ne (Or.inl (hw _ (List.mem_of_getElem? (i := 15) rfl))) (Or.inl (hw _ (List.mem_of_getElem? (i := 39) rfl))) (by decide) (t := (.array .int)) (t' := .int) (by decide) (by decide)))
  replace A_1 := A_1.other W7 (Ne.symm (Nat.ne_of_lt (by omega)))
  replace F_2 := Fld.other W7 F_2 (Or.inr (slot_ne (Or.inl (hw _ (List.mem_of_getElem? (i := 17) rfl))) (Or.inl (hw _ (List.mem_of_getElem? (i := 39) rfl))) (by decide) (t := (.array .long)) (t' := .int) (by decide) (by decide)))
  replace A_2 := A_2.other W7 (Ne.symm (Nat.ne_of_lt (by omega)))
  replace F_3 := Fld.other W7 F_3 (Or.inr (slot_ne (Or.inl (hw _ (List.mem_of_getElem? (i := 19) rfl))) (Or.inl (hw _ (List.mem_of_getElem? (i := 39) rfl))) (by decide) (t := (.array .int)) (t' := .int) (by decide) (by decide)))
  replace A_3 := A_3.other W7 (Ne.symm (Nat.ne_of_lt (by omega)))
  replace F_4 := Fld.other W7 F_4 (Or.inr (slot_ne (Or.inl (hw _ (List.mem_of_getElem? (i := 21) rfl))) (Or.inl (hw _ (List.mem_of_getElem? (i := 39) rfl))) (by decide) (t := (.array .long)) (t' := .int) (by decide) (by decide)))
  replace A_4 := A_4.other W7 (Ne.symm (Nat.ne_of_lt (by omega)))
  replace F_5 := Fld.other W7 F_5 (Or.inr (slot_ne (Or.inl (hw _ (List.mem_of_getElem? (i := 23) rfl))) (Or.inl (hw _ (List.mem_of_getElem? (i := 39) rfl))) (by decide) (t := (.array .int)) (t' := .int) (by decide) (by decide)))
  replace A_5 := A_5.other W7 (Ne.symm (Nat.ne_of_lt (by omega)))
  replace F_6 := Fld.other W7 F_6 (Or.inr (slot_ne (Or.inl (hw _ (List.mem_of_getElem? (i := 25) rfl))) (Or.inl (hw _ (List.mem_of_getElem? (i := 39) rfl))) (by decide) (t := (.array .long)) (t' := .int) (by decide) (by decide)))
  replace A_6 := A_6.other W7 (Ne.symm (Nat.ne_of_lt (by omega)))
  replace F_7 := Fld.other W7 F_7 (Or.inr (slot_ne (Or.inl (hw _ (List.mem_of_getElem? (i := 27) rfl))) (Or.inl (hw _ (List.mem_of_getElem? (i := 39) rfl))) (by decide) (t := (.array .int)) (t' := .int) (by decide) (by decide)))
  replace A_7 := A_7.other W7 (Ne.symm (Nat.ne_of_lt (by omega)))
  replace F_8 := Fld.other W7 F_8 (Or.inr (slot_ne (Or.inl (hw _ (List.mem_of_getElem? (i := 31) rfl))) (Or.inl (hw _ (List.mem_of_getElem? (i := 39) rfl))) (by decide) (t := (.array (.array .int))) (t' := .int) (by decide) (by decide)))
  replace A_8 := A_8.other W7 (Ne.symm (Nat.ne_of_lt (by omega)))
  replace F_9 := Fld.other W7 F_9 (Or.inr (slot_ne (Or.inl (hw _ (List.mem_of_getElem? (i := 33) rfl))) (Or.inl (hw _ (List.mem_of_getElem? (i := 39) rfl))) (by decide) (t := (.array .int)) (t' := .int) (by decide) (by decide)))
  replace A_9 := A_9.other W7 (Ne.symm (Nat.ne_of_lt (by omega)))
  replace F_10 := Fld.other W7 F_10 (Or.inr (slot_ne (Or.inl (hw _ (List.mem_of_getElem? (i := 35) rfl))) (Or.inl (hw _ (List.mem_of_getElem? (i := 39) rfl))) (by decide) (t := (.array .int)) (t' := .int) (by decide) (by decide)))
  replace A_10 := A_10.other W7 (Ne.symm (Nat.ne_of_lt (by omega)))
  replace F_11 := Fld.other W7 F_11 (Or.inr (slot_ne (Or.inl (hw _ (List.mem_of_getElem? (i := 37) rfl))) (Or.inl (hw _ (List.mem_of_getElem? (i := 39) rfl))) (by decide) (t := (.array .int)) (t' := .int) (by decide) (by decide)))
  replace A_11 := A_11.other W7 (Ne.symm (Nat.ne_of_lt (by omega)))
  replace F_un := Fld.same W7 F_un
  refine retV P d5_27 (by decide) (by decide) ?_
  exact ⟨rfl, ⟨_, _, _, _, _, _, _, _, _, _, _, _, _, _, _, _, _, _, _, _, _, _, E_a, F_un, F_us, F_0, F_1, F_2, F_3, F_4, F_5, F_6, F_7, F_8, F_9, F_10, F_11, A_0, A_1, A_2, A_3, A_4, A_5, A_6, A_7, A_8, A_9, A_10, A_11, lo_a, c0, c1, c2, c3, c4, c5, c6, c7, c8, c9, c10, c11⟩⟩
theorem d1_0 : decode prog_16_method_1_code 0 = .ok (.aload_n 0, 1) := by decide +kernel
theorem d1_1 : decode prog_16_method_1_code 1 = .ok (.invokespecial 1, 3) := by decide +kernel
theorem d1_4 : decode prog_16_method_1_code 4 = .ok (.aload_n 0, 1) := by decide +kernel
theorem d1_5 : decode prog_16_method_1_code 5 = .ok (.sipush 1024, 3) := by decide +kernel
theorem d1_8 : decode prog_16_method_1_code 8 = .ok (.newarray .long, 2) := by decide +kernel
theorem d1_10 : decode prog_16_method_1_code 10 = .ok (.putfield 9, 3) := by decide +kernel
theorem d1_13 : decode prog_16_method_1_code 13 = .ok (.aload_n 0, 1) := by decide +kernel
theorem d1_14 : decode prog_16_method_1_code 14 = .ok (.sipush 1024, 3) := by decide +kernel
theorem d1_17 : decode prog_16_method_1_code 17 = .ok (.newarray .int, 2) := by decide +kernel
theorem d1_19 : decode prog_16_method_1_code 19 = .ok (.putfield 13, 3) := by decide +kernel
theorem d1_22 : decode prog_16_method_1_code 22 = .ok (.aload_n 0, 1) := by decide +kernel
theorem d1_23 : decode prog_16_method_1_code 23 = .ok (.sipush 1024, 3) := by decide +kernel
theorem d1_26 : decode prog_16_method_1_code 26 = .ok (.newarray .long, 2) := by decide +kernel
theorem d1_28 : decode prog_16_method_1_code 28 = .ok (.putfield 17, 3) := by decide +kernel
theorem d1_31 : decode prog_16_method_1_code 31 = .ok (.aload_n 0, 1) := by decide +kernel
theorem d1_32 : decode prog_16_method_1_code 32 = .ok (.sipush 1024, 3) := by decide +kernel
theorem d1_35 : decode prog_16_method_1_code 35 = .ok (.newarray .int, 2) := by decide +kernel
theorem d1_37 : decode prog_16_method_1_code 37 = .ok (.putfield 20, 3) := by decide +kernel
theorem d1_40 : decode prog_16_method_1_code 40 = .ok (.aload_n 0, 1) := by decide +kernel
theorem d1_41 : decode prog_16_method_1_code 41 = .ok (.sipush 1024, 3) := by decide +kernel
theorem d1_44 : decode prog_16_method_1_code 44 = .ok (.newarray .long, 2) := by decide +kernel
theorem d1_46 : decode prog_16_method_1_code 46 = .ok (.putfield 23, 3) := by decide +kernel
theorem d1_49 : decode prog_16_method_1_code 49 = .ok (.aload_n 0, 1) := by decide +kernel
theorem d1_50 : decode prog_16_method_1_code 50 = .ok (.sipush 1024, 3) := by decide +kernel
theorem d1_53 : decode prog_16_method_1_code 53 = .ok (.newarray .int, 2) := by decide +kernel
theorem d1_55 : decode prog_16_method_1_code 55 = .ok (.putfield 26, 3) := by decide +kernel
theorem d1_58 : decode prog_16_method_1_code 58 = .ok (.aload_n 0, 1) := by decide +kernel
theorem d1_59 : decode prog_16_method_1_code 59 = .ok (.sipush 1024, 3) := by decide +kernel
theorem d1_62 : decode prog_16_method_1_code 62 = .ok (.newarray .long, 2) := by decide +kernel
theorem d1_64 : decode prog_16_method_1_code 64 = .ok (.putfield 29, 3) := by decide +kernel
theorem d1_67 : decode prog_16_method_1_code 67 = .ok (.aload_n 0, 1) := by decide +kernel
theorem d1_68 : decode prog_16_method_1_code 68 = .ok (.sipush 1024, 3) := by decide +kernel
theorem d1_71 : decode prog_16_method_1_code 71 = .ok (.newarray .int, 2) := by decide +kernel
theorem d1_73 : decode prog_16_method_1_code 73 = .ok (.putfield 32, 3) := by decide +kernel
theorem d1_76 : decode prog_16_method_1_code 76 = .ok (.aload_n 0, 1) := by decide +kernel
theorem d1_77 : decode prog_16_method_1_code 77 = .ok (.sipush 1024, 3) := by decide +kernel
theorem d1_80 : decode prog_16_method_1_code 80 = .ok (.anewarray 35, 3) := by decide +kernel
theorem d1_83 : decode prog_16_method_1_code 83 = .ok (.putfield 36, 3) := by decide +kernel
theorem d1_86 : decode prog_16_method_1_code 86 = .ok (.aload_n 0, 1) := by decide +kernel
theorem d1_87 : decode prog_16_method_1_code 87 = .ok (.sipush 1024, 3) := by decide +kernel
theorem d1_90 : decode prog_16_method_1_code 90 = .ok (.newarray .int, 2) := by decide +kernel
theorem d1_92 : decode prog_16_method_1_code 92 = .ok (.putfield 40, 3) := by decide +kernel
theorem d1_95 : decode prog_16_method_1_code 95 = .ok (.aload_n 0, 1) := by decide +kernel
theorem d1_96 : decode prog_16_method_1_code 96 = .ok (.sipush 1024, 3) := by decide +kernel
theorem d1_99 : decode prog_16_method_1_code 99 = .ok (.newarray .int, 2) := by decide +kernel
theorem d1_101 : decode prog_16_method_1_code 101 = .ok (.putfield 43, 3) := by decide +kernel
theorem d1_104 : decode prog_16_method_1_code 104 = .ok (.aload_n 0, 1) := by decide +kernel
theorem d1_105 : decode prog_16_method_1_code 105 = .ok (.sipush 1024, 3) := by decide +kernel
theorem d1_108 : decode prog_16_method_1_code 108 = .ok (.newarray .int, 2) := by decide +kernel
theorem d1_110 : decode prog_16_method_1_code 110 = .ok (.putfield 46, 3) := by decide +kernel
theorem d1_113 : decode prog_16_method_1_code 113 = .ok (.aload_n 0, 1) := by decide +kernel
theorem d1_114 : decode prog_16_method_1_code 114 = .ok (.iconst 0, 1) := by decide +kernel
theorem d1_115 : decode prog_16_method_1_code 115 = .ok (.putfield 49, 3) := by decide +kernel
theorem d1_118 : decode prog_16_method_1_code 118 = .ok (.aload_n 0, 1) := by decide +kernel
theorem d1_119 : decode prog_16_method_1_code 119 = .ok (.iconst 1, 1) := by decide +kernel
theorem d1_120 : decode prog_16_method_1_code 120 = .ok (.putfield 53, 3) := by decide +kernel
theorem d1_123 : decode prog_16_method_1_code 123 = .ok (.return_, 1) := by decide +kernel
theorem ef_1 (m : MethodId) (a : Addr) : entryFrame m #[(.ref a)] 1 = mkF m 0 #[.val (.ref a)] [] := by first | (simp [entryFrame, mkF, argsToLocals, Value.category]; done) | rfl
abbrev rm_c_new : Room := { frames := 1, cells := 12, slots := 12288, locals := 12 }
set_option maxRecDepth 65536 in
set_option maxHeartbeats 40000000 in
theorem c_new (l : Launch) (Z : State) (a0 : Array Value) (hw : ∀ d ∈ tables_1, d.before a0 Z = true) (a : Addr)  (h0 : Heap) (n0 : Nat) (low : n0 ≤ h0.size) (E_a : Exa Z h0 a "com/example/sessionloom/sessionloom/OpenSessions") (F_un : Fld Z h0 a "com/example/sessionloom/sessionloom/OpenSessions" "unused" "I" (.int (0 : Int32))) (F_us : Fld Z h0 a "com/example/sessionloom/sessionloom/OpenSessions" "used" "I" (.int (0 : Int32))) (F_0 : Fld Z h0 a "com/example/sessionloom/sessionloom/OpenSessions" "ids" "[J" .null) (F_1 : Fld Z h0 a "com/example/sessionloom/sessionloom/OpenSessions" "ordinals" "[I" .null) (F_2 : Fld Z h0 a "com/example/sessionloom/sessionloom/OpenSessions" "firstSeconds" "[J" .null) (F_3 : Fld Z h0 a "com/example/sessionloom/sessionloom/OpenSessions" "firstNanos" "[I" .null) (F_4 : Fld Z h0 a "com/example/sessionloom/sessionloom/OpenSessions" "lastSeconds" "[J" .null) (F_5 : Fld Z h0 a "com/example/sessionloom/sessionloom/OpenSessions" "lastNanos" "[I" .null) (F_6 : Fld Z h0 a "com/example/sessionloom/sessionloom/OpenSessions" "records" "[J" .null) (F_7 : Fld Z h0 a "com/example/sessionloom/sessionloom/OpenSessions" "entities" "[I" .null) (F_8 : Fld Z h0 a "com/example/sessionloom/sessionloom/OpenSessions" "others" "[[I" .null) (F_9 : Fld Z h0 a "com/example/sessionloom/sessionloom/OpenSessions" "otherCounts" "[I" .null) (F_10 : Fld Z h0 a "com/example/sessionloom/sessionloom/OpenSessions" "earlier" "[I" .null) (F_11 : Fld Z h0 a "com/example/sessionloom/sessionloom/OpenSessions" "later" "[I" .null) (lo_a : n0 ≤ a) :
    Meth l Z (⟨"com/example/sessionloom/sessionloom/OpenSessions", "<init>", "()V"⟩ : MethodName) prog_16_method_1_code 1 none rm_c_new #[(.ref a)] h0 n0 (fun v h => v = none ∧ own_OS Z n0 h a 0 1 (fun _ => 0) (fun _ => 0)) := by
  refine Meth.of (plainFor_of_name pn_0) low ?_
  intro p e s m args below meth c T P
  refine Ends.cast (ef_1 m a) ?_
  refine aloadN P d1_0 rfl rfl (n := 1) rfl ?_
  refine initO P d1_1 (hw _ (List.mem_of_getElem? (i := 7) rfl)) (hw _ (List.mem_of_getElem? (i := 8) rfl)) (hw _ (List.mem_of_getElem? (i := 9) rfl)) rfl (by decide) (Nat.le_of_ble_eq_true rfl) (n := 4) rfl ?_
  intro T P
  refine aloadN P d1_4 rfl rfl (n := 5) rfl ?_
  refine sipush P d1_5 (x := (1024 : Int32)) rfl (n := 8) rfl ?_
  have ltp : a < h0.size := E_a.lt
  refine newP P d1_8 (hw _ (List.mem_of_getElem? (i := 10) rfl)) (k := 1024) (cap := 1024) ⟨rfl, by decide⟩ (by decide) (by decide) (n := 10) rfl ?_
  intro T h2 b1 P X3 g4 lo_b1 A_b1
  have ne_a_b1 : a ≠ b1 := Nat.ne_of_lt (g4 ▸ E_a.lt)
  replace E_a := Exa.ext X3 E_a
  replace F_un := Fld.ext X3 F_un
  replace F_us := Fld.ext X3 F_us
  replace F_0 := Fld.ext X3 F_0
  replace F_1 := Fld.ext X3 F_1
  replace F_2 := Fld.ext X3 F_2
  replace F_3 := Fld.ext X3 F_3
  replace F_4 := Fld.ext X3 F_4
  replace F_5 := Fld.ext X3 F_5
  replace F_6 := Fld.ext X3 F_6
  replace F_7 := Fld.ext X3 F_7
  replace F_8 := Fld.ext X3 F_8
  replace F_9 := Fld.ext X3 F_9
  replace F_10 := Fld.ext X3 F_10
  replace F_11 := Fld.ext X3 F_11
  replace A_b1 : ARJ Z h2 b1 1024 (fun _ => 0) := A_b1
  have lt_b1 : a < b1 := g4 ▸ ltp
  refine putF P d1_10 (hw _ (List.mem_of_getElem? (i := 11) rfl)) F_0 E_a (Or.inl (hw _ (List.mem_of_getElem? (i := 12) rfl))) (hw _ (List.mem_of_getElem? (i := 2) rfl)) (ty := (.array .long)) (by decide) rfl rfl lo_a (n := 13) rfl ?_
  intro T h5 P W6
  replace E_a := Exa.wr W6 E_a
  replace F_un := Fld.other W6 F_un (Or.inr (slot_ne (Or.inl (hw _ (List.mem_of_getElem? (i := 39) rfl))) (Or.inl (hw _ (List.mem_of_getElem? (i := 12) rfl))) (by decide) (t := .int) (t' := (.array .long)) (by decide) (by decide)))
  replace F_us := Fld.other W6 F_us (Or.inr (slot_ne (Or.inl (hw _ (List.mem_of_getElem? (i := 41) rfl))) (Or.inl (hw _ (List.mem_of_getElem? (i := 12) rfl))) (by decide) (t := .int) (t' := (.array .long)) (by decide) (by decide)))
  replace F_1 := Fld.other W6 F_1 (Or.inr (slot_ne (Or.inl (hw _ (List.mem_of_getElem? (i := 15) rfl))) (Or.inl (hw _ (List.mem_of_getElem? (i := 12) rfl))) (by decide) (t := (.array .int)) (t' := (.array .long)) (by decide) (by decide)))
  replace F_2 := Fld.other W6 F_2 (Or.inr (slot_ne (Or.inl (hw _ (List.mem_of_getElem? (i := 17) rfl))) (Or.inl (hw _ (List.mem_of_getElem? (i := 12) rfl))) (by decide) (t := (.array .long)) (t' := (.array .long)) (by decide) (by decide)))
  replace F_3 := Fld.other W6 F_3 (Or.inr (slot_ne (Or.inl (hw _ (List.mem_of_getElem? (i := 19) rfl))) (Or.inl (hw _ (List.mem_of_getElem? (i := 12) rfl))) (by decide) (t := (.array .int)) (t' := (.array .long)) (by decide) (by decide)))
  replace F_4 := Fld.other W6 F_4 (Or.inr (slot_ne (Or.inl (hw _ (List.mem_of_getElem? (i := 21) rfl))) (Or.inl (hw _ (List.mem_of_getElem? (i := 12) rfl))) (by decide) (t := (.array .long)) (t' := (.array .long)) (by decide) (by decide)))
  replace F_5 := Fld.other W6 F_5 (Or.inr (slot_ne (Or.inl (hw _ (List.mem_of_getElem? (i := 23) rfl))) (Or.inl (hw _ (List.mem_of_getElem? (i := 12) rfl))) (by decide) (t := (.array .int)) (t' := (.array .long)) (by decide) (by decide)))
  replace F_6 := Fld.other W6 F_6 (Or.inr (slot_ne (Or.inl (hw _ (List.mem_of_getElem? (i := 25) rfl))) (Or.inl (hw _ (List.mem_of_getElem? (i := 12) rfl))) (by decide) (t := (.array .long)) (t' := (.array .long)) (by decide) (by decide)))
  replace F_7 := Fld.other W6 F_7 (Or.inr (slot_ne (Or.inl (hw _ (List.mem_of_getElem? (i := 27) rfl))) (Or.inl (hw _ (List.mem_of_getElem? (i := 12) rfl))) (by decide) (t := (.array .int)) (t' := (.array .long)) (by decide) (by decide)))
  replace F_8 := Fld.other W6 F_8 (Or.inr (slot_ne (Or.inl (hw _ (List.mem_of_getElem? (i := 31) rfl))) (Or.inl (hw _ (List.mem_of_getElem? (i := 12) rfl))) (by decide) (t := (.array (.array .int))) (t' := (.array .long)) (by decide) (by decide)))
  replace F_9 := Fld.other W6 F_9 (Or.inr (slot_ne (Or.inl (hw _ (List.mem_of_getElem? (i := 33) rfl))) (Or.inl (hw _ (List.mem_of_getElem? (i := 12) rfl))) (by decide) (t := (.array .int)) (t' := (.array .long)) (by decide) (by decide)))
  replace F_10 := Fld.other W6 F_10 (Or.inr (slot_ne (Or.inl (hw _ (List.mem_of_getElem? (i := 35) rfl))) (Or.inl (hw _ (List.mem_of_getElem? (i := 12) rfl))) (by decide) (t := (.array .int)) (t' := (.array .long)) (by decide) (by decide)))
  replace F_11 := Fld.other W6 F_11 (Or.inr (slot_ne (Or.inl (hw _ (List.mem_of_getElem? (i := 37) rfl))) (Or.inl (hw _ (List.mem_of_getElem? (i := 12) rfl))) (by decide) (t := (.array .int)) (t' := (.array .long)) (by decide) (by decide)))
  replace A_b1 := A_b1.other W6 (Ne.symm ne_a_b1)
  replace F_0 := Fld.same W6 F_0
  refine aloadN P d1_13 rfl rfl (n := 14) rfl ?_
  refine sipush P d1_14 (x := (1024 : Int32)) rfl (n := 17) rfl ?_
  have ltp : b1 < h5.size := A_b1.lt
  refine newP P d1_17 (hw _ (List.mem_of_getElem? (i := 13) rfl)) (k := 1024) (cap := 1024) ⟨rfl, by decide⟩ (by decide) (by decide) (n := 19) rfl ?_
  intro T h8 b7 P X9 g10 lo_b7 A_b7
  have ne_a_b7 : a ≠ b7 := Nat.ne_of_lt (g10 ▸ E_a.lt)
  have ne_b1_b7 : b1 ≠ b7 := Nat.ne_of_lt (g10 ▸ A_b1.lt)
  replace E_a := Exa.ext X9 E_a
  replace F_un := Fld.ext X9 F_un
  replace F_us := Fld.ext X9 F_us
  replace F_0 := Fld.ext X9 F_0
  replace F_1 := Fld.ext X9 F_1
  replace F_2 := Fld.ext X9 F_2
  replace F_3 := Fld.ext X9 F_3
  replace F_4 := Fld.ext X9 F_4
  replace F_5 := Fld.ext X9 F_5
  replace F_6 := Fld.ext X9 F_6
  replace F_7 := Fld.ext X9 F_7
  replace F_8 := Fld.ext X9 F_8
  replace F_9 := Fld.ext X9 F_9
  replace F_10 := Fld.ext X9 F_10
  replace F_11 := Fld.ext X9 F_11
  replace A_b1 := A_b1.ext X9
  replace A_b7 : ARI Z h8 b7 .int 1024 (fun _ => 0) := A_b7
  have lt_b7 : b1 < b7 := g10 ▸ ltp
  refine putF P d1_19 (hw _ (List.mem_of_getElem? (i := 14) rfl)) F_1 E_a (Or.inl (hw _ (List.mem_of_getElem? (i := 15) rfl))) (hw _ (List.mem_of_getElem? (i := 2) rfl)) (ty := (.array .int)) (by decide) rfl rfl lo_a (n := 22) rfl ?_
  intro T h11 P W12
  replace E_a := Exa.wr W12 E_a
  replace F_un := Fld.other W12 F_un (Or.inr (slot_ne (Or.inl (hw _ (List.mem_of_getElem? (i := 39) rfl))) (Or.inl (hw _ (List.mem_of_getElem? (i := 15) rfl))) (by decide) (t := .int) (t' := (.array .int)) (by decide) (by decide)))
  replace F_us := Fld.other W12 F_us (Or.inr (slot_ne (Or.inl (hw _ (List.mem_of_getElem? (i := 41) rfl))) (Or.inl (hw _ (List.mem_of_getElem? (i := 15) rfl))) (by decide) (t := .int) (t' := (.array .int)) (by decide) (by decide)))
  replace F_0 := Fld.other W12 F_0 (Or.inr (slot_ne (Or.inl (hw _ (List.mem_of_getElem? (i := 12) rfl))) (Or.inl (hw _ (List.mem_of_getElem? (i := 15) rfl))) (by decide) (t := (.array .long)) (t' := (.array .int)) (by decide) (by decide)))
  replace F_2 := Fld.other W12 F_2 (Or.inr (slot_ne (Or.inl (hw _ (List.mem_of_getElem? (i := 17) rfl))) (Or.inl (hw _ (List.mem_of_getElem? (i := 15) rfl))) (by decide) (t := (.array .long)) (t' := (.array .int)) (by decide) (by decide)))
  replace F_3 := Fld.other W12 F_3 (Or.inr (slot_ne (Or.inl (hw _ (List.mem_of_getElem? (i := 19) rfl))) (Or.inl (hw _ (List.mem_of_getElem? (i := 15) rfl))) (by decide) (t := (.array .int)) (t' := (.array .int)) (by decide) (by decide)))
  replace F_4 := Fld.other W12 F_4 (Or.inr (slot_ne (Or.inl (hw _ (List.mem_of_getElem? (i := 21) rfl))) (Or.inl (hw _ (List.mem_of_getElem? (i := 15) rfl))) (by decide) (t := (.array .long)) (t' := (.array .int)) (by decide) (by decide)))
  replace F_5 := Fld.other W12 F_5 (Or.inr (slot_ne (Or.inl (hw _ (List.mem_of_getElem? (i := 23) rfl))) (Or.inl (hw _ (List.mem_of_getElem? (i := 15) rfl))) (by decide) (t := (.array .int)) (t' := (.array .int)) (by decide) (by decide)))
  replace F_6 := Fld.other W12 F_6 (Or.inr (slot_ne (Or.inl (hw _ (List.mem_of_getElem? (i := 25) rfl))) (Or.inl (hw _ (List.mem_of_getElem? (i := 15) rfl))) (by decide) (t := (.array .long)) (t' := (.array .int)) (by decide) (by decide)))
  replace F_7 := Fld.other W12 F_7 (Or.inr (slot_ne (Or.inl (hw _ (List.mem_of_getElem? (i := 27) rfl))) (Or.inl (hw _ (List.mem_of_getElem? (i := 15) rfl))) (by decide) (t := (.array .int)) (t' := (.array .int)) (by decide) (by decide)))
  replace F_8 := Fld.other W12 F_8 (Or.inr (slot_ne (Or.inl (hw _ (List.mem_of_getElem? (i := 31) rfl))) (Or.inl (hw _ (List.mem_of_getElem? (i := 15) rfl))) (by decide) (t := (.array (.array .int))) (t' := (.array .int)) (by decide) (by decide)))
  replace F_9 := Fld.other W12 F_9 (Or.inr (slot_ne (Or.inl (hw _ (List.mem_of_getElem? (i := 33) rfl))) (Or.inl (hw _ (List.mem_of_getElem? (i := 15) rfl))) (by decide) (t := (.array .int)) (t' := (.array .int)) (by decide) (by decide)))
  replace F_10 := Fld.other W12 F_10 (Or.inr (slot_ne (Or.inl (hw _ (List.mem_of_getElem? (i := 35) rfl))) (Or.inl (hw _ (List.mem_of_getElem? (i := 15) rfl))) (by decide) (t := (.array .int)) (t' := (.array .int)) (by decide) (by decide)))
  replace F_11 := Fld.other W12 F_11 (Or.inr (slot_ne (Or.inl (hw _ (List.mem_of_getElem? (i := 37) rfl))) (Or.inl (hw _ (List.mem_of_getElem? (i := 15) rfl))) (by decide) (t := (.array .int)) (t' := (.array .int)) (by decide) (by decide)))
  replace A_b1 := A_b1.other W12 (Ne.symm ne_a_b1)
  replace A_b7 := A_b7.other W12 (Ne.symm ne_a_b7)
  replace F_1 := Fld.same W12 F_1
  refine aloadN P d1_22 rfl rfl (n := 23) rfl ?_
  refine sipush P d1_23 (x := (1024 : Int32)) rfl (n := 26) rfl ?_
  have ltp : b7 < h11.size := A_b7.lt
  refine newP P d1_26 (hw _ (List.mem_of_getElem? (i := 10) rfl)) (k := 1024) (cap := 1024) ⟨rfl, by decide⟩ (by decide) (by decide) (n := 28) rfl ?_
  intro T h14 b13 P X15 g16 lo_b13 A_b13
  have ne_a_b13 : a ≠ b13 := Nat.ne_of_lt (g16 ▸ E_a.lt)
  have ne_b1_b13 : b1 ≠ b13 := Nat.ne_of_lt (g16 ▸ A_b1.lt)
  have ne_b7_b13 : b7 ≠ b13 := Nat.ne_of_lt (g16 ▸ A_b7.lt)
  replace E_a := Exa.ext X15 E_a
  replace F_un := Fld.ext X15 F_un
  replace F_us := Fld.ext X15 F_us
  replace F_0 := Fld.ext X15 F_0
  replace F_1 := Fld.ext X15 F_1
  replace F_2 := Fld.ext X15 F_2
  replace F_3 := Fld.ext X15 F_3
  replace F_4 := Fld.ext X15 F_4
  replace F_5 := Fld.ext X15 F_5
  replace F_6 := Fld.ext X15 F_6
  replace F_7 := Fld.ext X15 F_7
  replace F_8 := Fld.ext X15 F_8
  replace F_9 := Fld.ext X15 F_9
  replace F_10 := Fld.ext X15 F_10
  replace F_11 := Fld.ext X15 F_11
  replace A_b1 := A_b1.ext X15
  replace A_b7 := A_b7.ext X15
  replace A_b13 : ARJ Z h14 b13 1024 (fun _ => 0) := A_b13
  have lt_b13 : b7 < b13 := g16 ▸ ltp
  refine putF P d1_28 (hw _ (List.mem_of_getElem? (i := 16) rfl)) F_2 E_a (Or.inl (hw _ (List.mem_of_getElem? (i := 17) rfl))) (hw _ (List.mem_of_getElem? (i := 2) rfl)) (ty := (.array .long)) (by decide) rfl rfl lo_a (n := 31) rfl ?_
  intro T h17 P W18
  replace E_a := Exa.wr W18 E_a
  replace F_un := Fld.other W18 F_un (Or.inr (slot_ne (Or.inl (hw _ (List.mem_of_getElem? (i := 39) rfl))) (Or.inl (hw _ (List.mem_of_getElem? (i := 17) rfl))) (by decide) (t := .int) (t' := (.array .long)) (by decide) (by decide)))
  replace F_us := Fld.other W18 F_us (Or.inr (slot_ne (Or.inl (hw _ (List.mem_of_getElem? (i := 41) rfl))) (Or.inl (hw _ (List.mem_of_getElem? (i := 17) rfl))) (by decide) (t := .int) (t' := (.array .long)) (by decide) (by decide)))
  replace F_0 := Fld.other W18 F_0 (Or.inr (slot_ne (Or.inl (hw _ (List.mem_of_getElem? (i := 12) rfl))) (Or.inl (hw _ (List.mem_of_getElem? (i := 17) rfl))) (by decide) (t := (.array .long)) (t' := (.array .long)) (by decide) (by decide)))
  replace F_1 := Fld.other W18 F_1 (Or.inr (slot_ne (Or.inl (hw _ (List.mem_of_getElem? (i := 15) rfl))) (Or.inl (hw _ (List.mem_of_getElem? (i := 17) rfl))) (by decide) (t := (.array .int)) (t' := (.array .long)) (by decide) (by decide)))
  replace F_3 := Fld.other W18 F_3 (Or.inr (slot_ne (Or.inl (hw _ (List.mem_of_getElem? (i := 19) rfl))) (Or.inl (hw _ (List.mem_of_getElem? (i := 17) rfl))) (by decide) (t := (.array .int)) (t' := (.array .long)) (by decide) (by decide)))
  replace F_4 := Fld.other W18 F_4 (Or.inr (slot_ne (Or.inl (hw _ (List.mem_of_getElem? (i := 21) rfl))) (Or.inl (hw _ (List.mem_of_getElem? (i := 17) rfl))) (by decide) (t := (.array .long)) (t' := (.array .long)) (by decide) (by decide)))
  replace F_5 := Fld.other W18 F_5 (Or.inr (slot_ne (Or.inl (hw _ (List.mem_of_getElem? (i := 23) rfl))) (Or.inl (hw _ (List.mem_of_getElem? (i := 17) rfl))) (by decide) (t := (.array .int)) (t' := (.array .long)) (by decide) (by decide)))
  replace F_6 := Fld.other W18 F_6 (Or.inr (slot_ne (Or.inl (hw _ (List.mem_of_getElem? (i := 25) rfl))) (Or.inl (hw _ (List.mem_of_getElem? (i := 17) rfl))) (by decide) (t := (.array .long)) (t' := (.array .long)) (by decide) (by decide)))
  replace F_7 := Fld.other W18 F_7 (Or.inr (slot_ne (Or.inl (hw _ (List.mem_of_getElem? (i := 27) rfl))) (Or.inl (hw _ (List.mem_of_getElem? (i := 17) rfl))) (by decide) (t := (.array .int)) (t' := (.array .long)) (by decide) (by decide)))
  replace F_8 := Fld.other W18 F_8 (Or.inr (slot_ne (Or.inl (hw _ (List.mem_of_getElem? (i := 31) rfl))) (Or.inl (hw _ (List.mem_of_getElem? (i := 17) rfl))) (by decide) (t := (.array (.array .int))) (t' := (.array .long)) (by decide) (by decide)))
  replace F_9 := Fld.other W18 F_9 (Or.inr (slot_ne (Or.inl (hw _ (List.mem_of_getElem? (i := 33) rfl))) (Or.inl (hw _ (List.mem_of_getElem? (i := 17) rfl))) (by decide) (t := (.array .int)) (t' := (.array .long)) (by decide) (by decide)))
  replace F_10 := Fld.other W18 F_10 (Or.inr (slot_ne (Or.inl (hw _ (List.mem_of_getElem? (i := 35) rfl))) (Or.inl (hw _ (List.mem_of_getElem? (i := 17) rfl))) (by decide) (t := (.array .int)) (t' := (.array .long)) (by decide) (by decide)))
  replace F_11 := Fld.other W18 F_11 (Or.inr (slot_ne (Or.inl (hw _ (List.mem_of_getElem? (i := 37) rfl))) (Or.inl (hw _ (List.mem_of_getElem? (i := 17) rfl))) (by decide) (t := (.array .int)) (t' := (.array .long)) (by decide) (by decide)))
  replace A_b1 := A_b1.other W18 (Ne.symm ne_a_b1)
  replace A_b7 := A_b7.other W18 (Ne.symm ne_a_b7)
  replace A_b13 := A_b13.other W18 (Ne.symm ne_a_b13)
  replace F_2 := Fld.same W18 F_2
  refine aloadN P d1_31 rfl rfl (n := 32) rfl ?_
  refine sipush P d1_32 (x := (1024 : Int32)) rfl (n := 35) rfl ?_
  have ltp : b13 < h17.size := A_b13.lt
  refine newP P d1_35 (hw _ (List.mem_of_getElem? (i := 13) rfl)) (k := 1024) (cap := 1024) ⟨rfl, by decide⟩ (by decide) (by decide) (n := 37) rfl ?_
  intro T h20 b19 P X21 g22 lo_b19 A_b19
  have ne_a_b19 : a ≠ b19 := Nat.ne_of_lt (g22 ▸ E_a.lt)
  have ne_b1_b19 : b1 ≠ b19 := Nat.ne_of_lt (g22 ▸ A_b1.lt)
  have ne_b13_b19 : b13 ≠ b19 := Nat.ne_of_lt (g22 ▸ A_b13.lt)
  have ne_b7_b19 : b7 ≠ b19 := Nat.ne_of_lt (g22 ▸ A_b7.lt)
  replace E_a := Exa.ext X21 E_a
  replace F_un := Fld.ext X21 F_un
  replace F_us := Fld.ext X21 F_us
  replace F_0 := Fld.ext X21 F_0
  replace F_1 := Fld.ext X21 F_1
  replace F_2 := Fld.ext X21 F_2
  replace F_3 := Fld.ext X21 F_3
  replace F_4 := Fld.ext X21 F_4
  replace F_5 := Fld.ext X21 F_5
  replace F_6 := Fld.ext X21 F_6
  replace F_7 := Fld.ext X21 F_7
  replace F_8 := Fld.ext X21 F_8
  replace F_9 := Fld.ext X21 F_9
  replace F_10 := Fld.ext X21 F_10
  replace F_11 := Fld.ext X21 F_11
  replace A_b1 := A_b1.ext X21
  replace A_b7 := A_b7.ext X21
  replace A_b13 := A_b13.ext X21
  replace A_b19 : ARI Z h20 b19 .int 1024 (fun _ => 0) := A_b19
  have lt_b19 : b13 < b19 := g22 ▸ ltp
  refine putF P d1_37 (hw _ (List.mem_of_getElem? (i := 18) rfl)) F_3 E_a (Or.inl (hw _ (List.mem_of_getElem? (i := 19) rfl))) (hw _ (List.mem_of_getElem? (i := 2) rfl)) (ty := (.array .int)) (by decide) rfl rfl lo_a (n := 40) rfl ?_
  intro T h23 P W24
  replace E_a := Exa.wr W24 E_a
  replace F_un := Fld.other W24 F_un (Or.inr (slot_ne (Or.inl (hw _ (List.mem_of_getElem? (i := 39) rfl))) (Or.inl (hw _ (List.mem_of_getElem? (i := 19) rfl))) (by decide) (t := .int) (t' := (.array .int)) (by decide) (by decide)))
  replace F_us := Fld.other W24 F_us (Or.inr (slot_ne (Or.inl (hw _ (List.mem_of_getElem? (i := 41) rfl))) (Or.inl (hw _ (List.mem_of_getElem? (i := 19) rfl))) (by decide) (t := .int) (t' := (.array .int)) (by decide) (by decide)))
  replace F_0 := Fld.other W24 F_0 (Or.inr (slot_ne (Or.inl (hw _ (List.mem_of_getElem? (i := 12) rfl))) (Or.inl (hw _ (List.mem_of_getElem? (i := 19) rfl))) (by decide) (t := (.array .long)) (t' := (.array .int)) (by decide) (by decide)))
  replace F_1 := Fld.other W24 F_1 (Or.inr (slot_ne (Or.inl (hw _ (List.mem_of_getElem? (i := 15) rfl))) (Or.inl (hw _ (List.mem_of_getElem? (i := 19) rfl))) (by decide) (t := (.array .int)) (t' := (.array .int)) (by decide) (by decide)))
  replace F_2 := Fld.other W24 F_2 (Or.inr (slot_ne (Or.inl (hw _ (List.mem_of_getElem? (i := 17) rfl))) (Or.inl (hw _ (List.mem_of_getElem? (i := 19) rfl))) (by decide) (t := (.array .long)) (t' := (.array .int)) (by decide) (by decide)))
  replace F_4 := Fld.other W24 F_4 (Or.inr (slot_ne (Or.inl (hw _ (List.mem_of_getElem? (i := 21) rfl))) (Or.inl (hw _ (List.mem_of_getElem? (i := 19) rfl))) (by decide) (t := (.array .long)) (t' := (.array .int)) (by decide) (by decide)))
  replace F_5 := Fld.other W24 F_5 (Or.inr (slot_ne (Or.inl (hw _ (List.mem_of_getElem? (i := 23) rfl))) (Or.inl (hw _ (List.mem_of_getElem? (i := 19) rfl))) (by decide) (t := (.array .int)) (t' := (.array .int)) (by decide) (by decide)))
  replace F_6 := Fld.other W24 F_6 (Or.inr (slot_ne (Or.inl (hw _ (List.mem_of_getElem? (i := 25) rfl))) (Or.inl (hw _ (List.mem_of_getElem? (i := 19) rfl))) (by decide) (t := (.array .long)) (t' := (.array .int)) (by decide) (by decide)))
  replace F_7 := Fld.other W24 F_7 (Or.inr (slot_ne (Or.inl (hw _ (List.mem_of_getElem? (i := 27) rfl))) (Or.inl (hw _ (List.mem_of_getElem? (i := 19) rfl))) (by decide) (t := (.array .int)) (t' := (.array .int)) (by decide) (by decide)))
  replace F_8 := Fld.other W24 F_8 (Or.inr (slot_ne (Or.inl (hw _ (List.mem_of_getElem? (i := 31) rfl))) (Or.inl (hw _ (List.mem_of_getElem? (i := 19) rfl))) (by decide) (t := (.array (.array .int))) (t' := (.array .int)) (by decide) (by decide)))
  replace F_9 := Fld.other W24 F_9 (Or.inr (slot_ne (Or.inl (hw _ (List.mem_of_getElem? (i := 33) rfl))) (Or.inl (hw _ (List.mem_of_getElem? (i := 19) rfl))) (by decide) (t := (.array .int)) (t' := (.array .int)) (by decide) (by decide)))
  replace F_10 := Fld.other W24 F_10 (Or.inr (slot_ne (Or.inl (hw _ (List.mem_of_getElem? (i := 35) rfl))) (Or.inl (hw _ (List.mem_of_getElem? (i := 19) rfl))) (by decide) (t := (.array .int)) (t' := (.array .int)) (by decide) (by decide)))
  replace F_11 := Fld.other W24 F_11 (Or.inr (slot_ne (Or.inl (hw _ (List.mem_of_getElem? (i := 37) rfl))) (Or.inl (hw _ (List.mem_of_getElem? (i := 19) rfl))) (by decide) (t := (.array .int)) (t' := (.array .int)) (by decide) (by decide)))
  replace A_b1 := A_b1.other W24 (Ne.symm ne_a_b1)
  replace A_b7 := A_b7.other W24 (Ne.symm ne_a_b7)
  replace A_b13 := A_b13.other W24 (Ne.symm ne_a_b13)
  replace A_b19 := A_b19.other W24 (Ne.symm ne_a_b19)
  replace F_3 := Fld.same W24 F_3
  refine aloadN P d1_40 rfl rfl (n := 41) rfl ?_
  refine sipush P d1_41 (x := (1024 : Int32)) rfl (n := 44) rfl ?_
  have ltp : b19 < h23.size := A_b19.lt
  refine newP P d1_44 (hw _ (List.mem_of_getElem? (i := 10) rfl)) (k := 1024) (cap := 1024) ⟨rfl, by decide⟩ (by decide) (by decide) (n := 46) rfl ?_
  intro T h26 b25 P X27 g28 lo_b25 A_b25
  have ne_a_b25 : a ≠ b25 := Nat.ne_of_lt (g28 ▸ E_a.lt)
  have ne_b1_b25 : b1 ≠ b25 := Nat.ne_of_lt (g28 ▸ A_b1.lt)
  have ne_b13_b25 : b13 ≠ b25 := Nat.ne_of_lt (g28 ▸ A_b13.lt)
  have ne_b19_b25 : b19 ≠ b25 := Nat.ne_of_lt (g28 ▸ A_b19.lt)
  have ne_b7_b25 : b7 ≠ b25 := Nat.ne_of_lt (g28 ▸ A_b7.lt)
  replace E_a := Exa.ext X27 E_a
  replace F_un := Fld.ext X27 F_un
  replace F_us := Fld.ext X27 F_us
  replace F_0 := Fld.ext X27 F_0
  replace F_1 := Fld.ext X27 F_1
  replace F_2 := Fld.ext X27 F_2
  replace F_3 := Fld.ext X27 F_3
  replace F_4 := Fld.ext X27 F_4
  replace F_5 := Fld.ext X27 F_5
  replace F_6 := Fld.ext X27 F_6
  replace F_7 := Fld.ext X27 F_7
  replace F_8 := Fld.ext X27 F_8
  replace F_9 := Fld.ext X27 F_9
  replace F_10 := Fld.ext X27 F_10
  replace F_11 := Fld.ext X27 F_11
  replace A_b1 := A_b1.ext X27
  replace A_b7 := A_b7.ext X27
  replace A_b13 := A_b13.ext X27
  replace A_b19 := A_b19.ext X27
  replace A_b25 : ARJ Z h26 b25 1024 (fun _ => 0) := A_b25
  have lt_b25 : b19 < b25 := g28 ▸ ltp
  refine putF P d1_46 (hw _ (List.mem_of_getElem? (i := 20) rfl)) F_4 E_a (Or.inl (hw _ (List.mem_of_getElem? (i := 21) rfl))) (hw _ (List.mem_of_getElem? (i := 2) rfl)) (ty := (.array .long)) (by decide) rfl rfl lo_a (n := 49) rfl ?_
  intro T h29 P W30
  replace E_a := Exa.wr W30 E_a
  replace F_un := Fld.other W30 F_un (Or.inr (slot_ne (Or.inl (hw _ (List.mem_of_getElem? (i := 39) rfl))) (Or.inl (hw _ (List.mem_of_getElem? (i := 21) rfl))) (by decide) (t := .int) (t' := (.array .long)) (by decide) (by decide)))
  replace F_us := Fld.other W30 F_us (Or.inr (slot_ne (Or.inl (hw _ (List.mem_of_getElem? (i := 41) rfl))) (Or.inl (hw _ (List.mem_of_getElem? (i := 21) rfl))) (by decide) (t := .int) (t' := (.array .long)) (by decide) (by decide)))
  replace F_0 := Fld.other W30 F_0 (Or.inr (slot_ne (Or.inl (hw _ (List.mem_of_getElem? (i := 12) rfl))) (Or.inl (hw _ (List.mem_of_getElem? (i := 21) rfl))) (by decide) (t := (.array .long)) (t' := (.array .long)) (by decide) (by decide)))
  replace F_1 := Fld.other W30 F_1 (Or.inr (slot_ne (Or.inl (hw _ (List.mem_of_getElem? (i := 15) rfl))) (Or.inl (hw _ (List.mem_of_getElem? (i := 21) rfl))) (by decide) (t := (.array .int)) (t' := (.array .long)) (by decide) (by decide)))
  replace F_2 := Fld.other W30 F_2 (Or.inr (slot_ne (Or.inl (hw _ (List.mem_of_getElem? (i := 17) rfl))) (Or.inl (hw _ (List.mem_of_getElem? (i := 21) rfl))) (by decide) (t := (.array .long)) (t' := (.array .long)) (by decide) (by decide)))
  replace F_3 := Fld.other W30 F_3 (Or.inr (slot_ne (Or.inl (hw _ (List.mem_of_getElem? (i := 19) rfl))) (Or.inl (hw _ (List.mem_of_getElem? (i := 21) rfl))) (by decide) (t := (.array .int)) (t' := (.array .long)) (by decide) (by decide)))
  replace F_5 := Fld.other W30 F_5 (Or.inr (slot_ne (Or.inl (hw _ (List.mem_of_getElem? (i := 23) rfl))) (Or.inl (hw _ (List.mem_of_getElem? (i := 21) rfl))) (by decide) (t := (.array .int)) (t' := (.array .long)) (by decide) (by decide)))
  replace F_6 := Fld.other W30 F_6 (Or.inr (slot_ne (Or.inl (hw _ (List.mem_of_getElem? (i := 25) rfl))) (Or.inl (hw _ (List.mem_of_getElem? (i := 21) rfl))) (by decide) (t := (.array .long)) (t' := (.array .long)) (by decide) (by decide)))
  replace F_7 := Fld.other W30 F_7 (Or.inr (slot_ne (Or.inl (hw _ (List.mem_of_getElem? (i := 27) rfl))) (Or.inl (hw _ (List.mem_of_getElem? (i := 21) rfl))) (by decide) (t := (.array .int)) (t' := (.array .long)) (by decide) (by decide)))
  replace F_8 := Fld.other W30 F_8 (Or.inr (slot_ne (Or.inl (hw _ (List.mem_of_getElem? (i := 31) rfl))) (Or.inl (hw _ (List.mem_of_getElem? (i := 21) rfl))) (by decide) (t := (.array (.array .int))) (t' := (.array .long)) (by decide) (by decide)))
  replace F_9 := Fld.other W30 F_9 (Or.inr (slot_ne (Or.inl (hw _ (List.mem_of_getElem? (i := 33) rfl))) (Or.inl (hw _ (List.mem_of_getElem? (i := 21) rfl))) (by decide) (t := (.array .int)) (t' := (.array .long)) (by decide) (by decide)))
  replace F_10 := Fld.other W30 F_10 (Or.inr (slot_ne (Or.inl (hw _ (List.mem_of_getElem? (i := 35) rfl))) (Or.inl (hw _ (List.mem_of_getElem? (i := 21) rfl))) (by decide) (t := (.array .int)) (t' := (.array .long)) (by decide) (by decide)))
  replace F_11 := Fld.other W30 F_11 (Or.inr (slot_ne (Or.inl (hw _ (List.mem_of_getElem? (i := 37) rfl))) (Or.inl (hw _ (List.mem_of_getElem? (i := 21) rfl))) (by decide) (t := (.array .int)) (t' := (.array .long)) (by decide) (by decide)))
  replace A_b1 := A_b1.other W30 (Ne.symm ne_a_b1)
  replace A_b7 := A_b7.other W30 (Ne.symm ne_a_b7)
  replace A_b13 := A_b13.other W30 (Ne.symm ne_a_b13)
  replace A_b19 := A_b19.other W30 (Ne.symm ne_a_b19)
  replace A_b25 := A_b25.other W30 (Ne.symm ne_a_b25)
  replace F_4 := Fld.same W30 F_4
  refine aloadN P d1_49 rfl rfl (n := 50) rfl ?_
  refine sipush P d1_50 (x := (1024 : Int32)) rfl (n := 53) rfl ?_
  have ltp : b25 < h29.size := A_b25.lt
  refine newP P d1_53 (hw _ (List.mem_of_getElem? (i := 13) rfl)) (k := 1024) (cap := 1024) ⟨rfl, by decide⟩ (by decide) (by decide) (n := 55) rfl ?_
  intro T h32 b31 P X33 g34 lo_b31 A_b31
  have ne_a_b31 : a ≠ b31 := Nat.ne_of_lt (g34 ▸ E_a.lt)
  have ne_b1_b31 : b1 ≠ b31 := Nat.ne_of_lt (g34 ▸ A_b1.lt)
  have ne_b13_b31 : b13 ≠ b31 := Nat.ne_of_lt (g34 ▸ A_b13.lt)
  have ne_b19_b31 : b19 ≠ b31 := Nat.ne_of_lt (g34 ▸ A_b19.lt)
  have ne_b25_b31 : b25 ≠ b31 := Nat.ne_of_lt (g34 ▸ A_b25.lt)
  have ne_b7_b31 : b7 ≠ b31 := Nat.ne_of_lt (g34 ▸ A_b7.lt)
  replace E_a := Exa.ext X33 E_a
  replace F_un := Fld.ext X33 F_un
  replace F_us := Fld.ext X33 F_us
  replace F_0 := Fld.ext X33 F_0
  replace F_1 := Fld.ext X33 F_1
  replace F_2 := Fld.ext X33 F_2
  replace F_3 := Fld.ext X33 F_3
  replace F_4 := Fld.ext X33 F_4
  replace F_5 := Fld.ext X33 F_5
  replace F_6 := Fld.ext X33 F_6
  replace F_7 := Fld.ext X33 F_7
  replace F_8 := Fld.ext X33 F_8
  replace F_9 := Fld.ext X33 F_9
  replace F_10 := Fld.ext X33 F_10
  replace F_11 := Fld.ext X33 F_11
  replace A_b1 := A_b1.ext X33
  replace A_b7 := A_b7.ext X33
  replace A_b13 := A_b13.ext X33
  replace A_b19 := A_b19.ext X33
  replace A_b25 := A_b25.ext X33
  replace A_b31 : ARI Z h32 b31 .int 1024 (fun _ => 0) := A_b31
  have lt_b31 : b25 < b31 := g34 ▸ ltp
  refine putF P d1_55 (hw _ (List.mem_of_getElem? (i := 22) rfl)) F_5 E_a (Or.inl (hw _ (List.mem_of_getElem? (i := 23) rfl))) (hw _ (List.mem_of_getElem? (i := 2) rfl)) (ty := (.array .int)) (by decide) rfl rfl lo_a (n := 58) rfl ?_
  intro T h35 P W36
  replace E_a := Exa.wr W36 E_a
  replace F_un := Fld.other W36 F_un (Or.inr (slot_ne (Or.inl (hw _ (List.mem_of_getElem? (i := 39) rfl))) (Or.inl (hw _ (List.mem_of_getElem? (i := 23) rfl))) (by decide) (t := .int) (t' := (.array .int)) (by decide) (by decide)))
  replace F_us := Fld.other W36 F_us (Or.inr (slot_ne (Or.inl (hw _ (List.mem_of_getElem? (i := 41) rfl))) (Or.inl (hw _ (List.mem_of_getElem? (i := 23) rfl))) (by decide) (t := .int) (t' := (.array .int)) (by decide) (by decide)))
  replace F_0 := Fld.other W36 F_0 (Or.inr (slot_ne (Or.inl (hw _ (List.mem_of_getElem? (i := 12) rfl))) (Or.inl (hw _ (List.mem_of_getElem? (i := 23) rfl))) (by decide) (t := (.array .long)) (t' := (.array .int)) (by decide) (by decide)))
  replace F_1 := Fld.other W36 F_1 (Or.inr (slot_ne (Or.inl (hw _ (List.mem_of_getElem? (i := 15) rfl))) (Or.inl (hw _ (List.mem_of_getElem? (i := 23) rfl))) (by decide) (t := (.array .int)) (t' := (.array .int)) (by decide) (by decide)))
  replace F_2 := Fld.other W36 F_2 (Or.inr (slot_ne (Or.inl (hw _ (List.mem_of_getElem? (i := 17) rfl))) (Or.inl (hw _ (List.mem_of_getElem? (i := 23) rfl))) (by decide) (t := (.array .long)) (t' := (.array .int)) (by decide) (by decide)))
  replace F_3 := Fld.other W36 F_3 (Or.inr (slot_ne (Or.inl (hw _ (List.mem_of_getElem? (i := 19) rfl))) (Or.inl (hw _ (List.mem_of_getElem? (i := 23) rfl))) (by decide) (t := (.array .int)) (t' := (.array .int)) (by decide) (by decide)))
  replace F_4 := Fld.other W36 F_4 (Or.inr (slot_ne (Or.inl (hw _ (List.mem_of_getElem? (i := 21) rfl))) (Or.inl (hw _ (List.mem_of_getElem? (i := 23) rfl))) (by decide) (t := (.array .long)) (t' := (.array .int)) (by decide) (by decide)))
  replace F_6 := Fld.other W36 F_6 (Or.inr (slot_ne (Or.inl (hw _ (List.mem_of_getElem? (i := 25) rfl))) (Or.inl (hw _ (List.mem_of_getElem? (i := 23) rfl))) (by decide) (t := (.array .long)) (t' := (.array .int)) (by decide) (by decide)))
  replace F_7 := Fld.other W36 F_7 (Or.inr (slot_ne (Or.inl (hw _ (List.mem_of_getElem? (i := 27) rfl))) (Or.inl (hw _ (List.mem_of_getElem? (i := 23) rfl))) (by decide) (t := (.array .int)) (t' := (.array .int)) (by decide) (by decide)))
  replace F_8 := Fld.other W36 F_8 (Or.inr (slot_ne (Or.inl (hw _ (List.mem_of_getElem? (i := 31) rfl))) (Or.inl (hw _ (List.mem_of_getElem? (i := 23) rfl))) (by decide) (t := (.array (.array .int))) (t' := (.array .int)) (by decide) (by decide)))
  replace F_9 := Fld.other W36 F_9 (Or.inr (slot_ne (Or.inl (hw _ (List.mem_of_getElem? (i := 33) rfl))) (Or.inl (hw _ (List.mem_of_getElem? (i := 23) rfl))) (by decide) (t := (.array .int)) (t' := (.array .int)) (by decide) (by decide)))
  replace F_10 := Fld.other W36 F_10 (Or.inr (slot_ne (Or.inl (hw _ (List.mem_of_getElem? (i := 35) rfl))) (Or.inl (hw _ (List.mem_of_getElem? (i := 23) rfl))) (by decide) (t := (.array .int)) (t' := (.array .int)) (by decide) (by decide)))
  replace F_11 := Fld.other W36 F_11 (Or.inr (slot_ne (Or.inl (hw _ (List.mem_of_getElem? (i := 37) rfl))) (Or.inl (hw _ (List.mem_of_getElem? (i := 23) rfl))) (by decide) (t := (.array .int)) (t' := (.array .int)) (by decide) (by decide)))
  replace A_b1 := A_b1.other W36 (Ne.symm ne_a_b1)
  replace A_b7 := A_b7.other W36 (Ne.symm ne_a_b7)
  replace A_b13 := A_b13.other W36 (Ne.symm ne_a_b13)
  replace A_b19 := A_b19.other W36 (Ne.symm ne_a_b19)
  replace A_b25 := A_b25.other W36 (Ne.symm ne_a_b25)
  replace A_b31 := A_b31.other W36 (Ne.symm ne_a_b31)
  replace F_5 := Fld.same W36 F_5
  refine aloadN P d1_58 rfl rfl (n := 59) rfl ?_
  refine sipush P d1_59 (x := (1024 : Int32)) rfl (n := 62) rfl ?_
  have ltp : b31 < h35.size := A_b31.lt
  refine newP P d1_62 (hw _ (List.mem_of_getElem? (i := 10) rfl)) (k := 1024) (cap := 1024) ⟨rfl, by decide⟩ (by decide) (by decide) (n := 64) rfl ?_
  intro T h38 b37 P X39 g40 lo_b37 A_b37
  have ne_a_b37 : a ≠ b37 := Nat.ne_of_lt (g40 ▸ E_a.lt)
  have ne_b1_b37 : b1 ≠ b37 := Nat.ne_of_lt (g40 ▸ A_b1.lt)
  have ne_b13_b37 : b13 ≠ b37 := Nat.ne_of_lt (g40 ▸ A_b13.lt)
  have ne_b19_b37 : b19 ≠ b37 := Nat.ne_of_lt (g40 ▸ A_b19.lt)
  have ne_b25_b37 : b25 ≠ b37 := Nat.ne_of_lt (g40 ▸ A_b25.lt)
  have ne_b31_b37 : b31 ≠ b37 := Nat.ne_of_lt (g40 ▸ A_b31.lt)
  have ne_b7_b37 : b7 ≠ b37 := Nat.ne_of_lt (g40 ▸ A_b7.lt)
  replace E_a := Exa.ext X39 E_a
  replace F_un := Fld.ext X39 F_un
  replace F_us := Fld.ext X39 F_us
  replace F_0 := Fld.ext X39 F_0
  replace F_1 := Fld.ext X39 F_1
  replace F_2 := Fld.ext X39 F_2
  replace F_3 := Fld.ext X39 F_3
  replace F_4 := Fld.ext X39 F_4
  replace F_5 := Fld.ext X39 F_5
  replace F_6 := Fld.ext X39 F_6
  replace F_7 := Fld.ext X39 F_7
  replace F_8 := Fld.ext X39 F_8
  replace F_9 := Fld.ext X39 F_9
  replace F_10 := Fld.ext X39 F_10
  replace F_11 := Fld.ext X39 F_11
  replace A_b1 := A_b1.ext X39
  replace A_b7 := A_b7.ext X39
  replace A_b13 := A_b13.ext X39
  replace A_b19 := A_b19.ext X39
  replace A_b25 := A_b25.ext X39
  replace A_b31 := A_b31.ext X39
  replace A_b37 : ARJ Z h38 b37 1024 (fun _ => 0) := A_b37
  have lt_b37 : b31 < b37 := g40 ▸ ltp
  refine putF P d1_64 (hw _ (List.mem_of_getElem? (i := 24) rfl)) F_6 E_a (Or.inl (hw _ (List.mem_of_getElem? (i := 25) rfl))) (hw _ (List.mem_of_getElem? (i := 2) rfl)) (ty := (.array .long)) (by decide) rfl rfl lo_a (n := 67) rfl ?_
  intro T h41 P W42
  replace E_a := Exa.wr W42 E_a
  replace F_un := Fld.other W42 F_un (Or.inr (slot_ne (Or.inl (hw _ (List.mem_of_getElem? (i := 39) rfl))) (Or.inl (hw _ (List.mem_of_getElem? (i := 25) rfl))) (by decide) (t := .int) (t' := (.array .long)) (by decide) (by decide)))
  replace F_us := Fld.other W42 F_us (Or.inr (slot_ne (Or.inl (hw _ (List.mem_of_getElem? (i := 41) rfl))) (Or.inl (hw _ (List.mem_of_getElem? (i := 25) rfl))) (by decide) (t := .int) (t' := (.array .long)) (by decide) (by decide)))
  replace F_0 := Fld.other W42 F_0 (Or.inr (slot_ne (Or.inl (hw _ (List.mem_of_getElem? (i := 12) rfl))) (Or.inl (hw _ (List.mem_of_getElem? (i := 25) rfl))) (by decide) (t := (.array .long)) (t' := (.array .long)) (by decide) (by decide)))
  replace F_1 := Fld.other W42 F_1 (Or.inr (slot_ne (Or.inl (hw _ (List.mem_of_getElem? (i := 15) rfl))) (Or.inl (hw _ (List.mem_of_getElem? (i := 25) rfl))) (by decide) (t := (.array .int)) (t' := (.array .long)) (by decide) (by decide)))
  replace F_2 := Fld.other W42 F_2 (Or.inr (slot_ne (Or.inl (hw _ (List.mem_of_getElem? (i := 17) rfl))) (Or.inl (hw _ (List.mem_of_getElem? (i := 25) rfl))) (by decide) (t := (.array .long)) (t' := (.array .long)) (by decide) (by decide)))
  replace F_3 := Fld.other W42 F_3 (Or.inr (slot_ne (Or.inl (hw _ (List.mem_of_getElem? (i := 19) rfl))) (Or.inl (hw _ (List.mem_of_getElem? (i := 25) rfl))) (by decide) (t := (.array .int)) (t' := (.array .long)) (by decide) (by decide)))
  replace F_4 := Fld.other W42 F_4 (Or.inr (slot_ne (Or.inl (hw _ (List.mem_of_getElem? (i := 21) rfl))) (Or.inl (hw _ (List.mem_of_getElem? (i := 25) rfl))) (by decide) (t := (.array .long)) (t' := (.array .long)) (by decide) (by decide)))
  replace F_5 := Fld.other W42 F_5 (Or.inr (slot_ne (Or.inl (hw _ (List.mem_of_getElem? (i := 23) rfl))) (Or.inl (hw _ (List.mem_of_getElem? (i := 25) rfl))) (by decide) (t := (.array .int)) (t' := (.array .long)) (by decide) (by decide)))
  replace F_7 := Fld.other W42 F_7 (Or.inr (slot_ne (Or.inl (hw _ (List.mem_of_getElem? (i := 27) rfl))) (Or.inl (hw _ (List.mem_of_getElem? (i := 25) rfl))) (by decide) (t := (.array .int)) (t' := (.array .long)) (by decide) (by decide)))
  replace F_8 := Fld.other W42 F_8 (Or.inr (slot_ne (Or.inl (hw _ (List.mem_of_getElem? (i := 31) rfl))) (Or.inl (hw _ (List.mem_of_getElem? (i := 25) rfl))) (by decide) (t := (.array (.array .int))) (t' := (.array .long)) (by decide) (by decide)))
  replace F_9 := Fld.other W42 F_9 (Or.inr (slot_ne (Or.inl (hw _ (List.mem_of_getElem? (i := 33) rfl))) (Or.inl (hw _ (List.mem_of_getElem? (i := 25) rfl))) (by decide) (t := (.array .int)) (t' := (.array .long)) (by decide) (by decide)))
  replace F_10 := Fld.other W42 F_10 (Or.inr (slot_ne (Or.inl (hw _ (List.mem_of_getElem? (i := 35) rfl))) (Or.inl (hw _ (List.mem_of_getElem? (i := 25) rfl))) (by decide) (t := (.array .int)) (t' := (.array .long)) (by decide) (by decide)))
  replace F_11 := Fld.other W42 F_11 (Or.inr (slot_ne (Or.inl (hw _ (List.mem_of_getElem? (i := 37) rfl))) (Or.inl (hw _ (List.mem_of_getElem? (i := 25) rfl))) (by decide) (t := (.array .int)) (t' := (.array .long)) (by decide) (by decide)))
  replace A_b1 := A_b1.other W42 (Ne.symm ne_a_b1)
  replace A_b7 := A_b7.other W42 (Ne.symm ne_a_b7)
  replace A_b13 := A_b13.other W42 (Ne.symm ne_a_b13)
  replace A_b19 := A_b19.other W42 (Ne.symm ne_a_b19)
  replace A_b25 := A_b25.other W42 (Ne.symm ne_a_b25)
  replace A_b31 := A_b31.other W42 (Ne.symm ne_a_b31)
  replace A_b37 := A_b37.other W42 (Ne.symm ne_a_b37)
  replace F_6 := Fld.same W42 F_6
  refine aloadN P d1_67 rfl rfl (n := 68) rfl ?_
  refine sipush P d1_68 (x := (1024 : Int32)) rfl (n := 71) rfl ?_
  have ltp : b37 < h41.size := A_b37.lt
  refine newP P d1_71 (hw _ (List.mem_of_getElem? (i := 13) rfl)) (k := 1024) (cap := 1024) ⟨rfl, by decide⟩ (by decide) (by decide) (n := 73) rfl ?_
  intro T h44 b43 P X45 g46 lo_b43 A_b43
  have ne_a_b43 : a ≠ b43 := Nat.ne_of_lt (g46 ▸ E_a.lt)
  have ne_b1_b43 : b1 ≠ b43 := Nat.ne_of_lt (g46 ▸ A_b1.lt)
  have ne_b13_b43 : b13 ≠ b43 := Nat.ne_of_lt (g46 ▸ A_b13.lt)
  have ne_b19_b43 : b19 ≠ b43 := Nat.ne_of_lt (g46 ▸ A_b19.lt)
  have ne_b25_b43 : b25 ≠ b43 := Nat.ne_of_lt (g46 ▸ A_b25.lt)
  have ne_b31_b43 : b31 ≠ b43 := Nat.ne_of_lt (g46 ▸ A_b31.lt)
  have ne_b37_b43 : b37 ≠ b43 := Nat.ne_of_lt (g46 ▸ A_b37.lt)
  have ne_b7_b43 : b7 ≠ b43 := Nat.ne_of_lt (g46 ▸ A_b7.lt)
  replace E_a := Exa.ext X45 E_a
  replace F_un := Fld.ext X45 F_un
  replace F_us := Fld.ext X45 F_us
  replace F_0 := Fld.ext X45 F_0
  replace F_1 := Fld.ext X45 F_1
  replace F_2 := Fld.ext X45 F_2
  replace F_3 := Fld.ext X45 F_3
  replace F_4 := Fld.ext X45 F_4
  replace F_5 := Fld.ext X45 F_5
  replace F_6 := Fld.ext X45 F_6
  replace F_7 := Fld.ext X45 F_7
  replace F_8 := Fld.ext X45 F_8
  replace F_9 := Fld.ext X45 F_9
  replace F_10 := Fld.ext X45 F_10
  replace F_11 := Fld.ext X45 F_11
  replace A_b1 := A_b1.ext X45
  replace A_b7 := A_b7.ext X45
  replace A_b13 := A_b13.ext X45
  replace A_b19 := A_b19.ext X45
  replace A_b25 := A_b25.ext X45
  replace A_b31 := A_b31.ext X45
  replace A_b37 := A_b37.ext X45
  replace A_b43 : ARI Z h44 b43 .int 1024 (fun _ => 0) := A_b43
  have lt_b43 : b37 < b43 := g46 ▸ ltp
  refine putF P d1_73 (hw _ (List.mem_of_getElem? (i := 26) rfl)) F_7 E_a (Or.inl (hw _ (List.mem_of_getElem? (i := 27) rfl))) (hw _ (List.mem_of_getElem? (i := 2) rfl)) (ty := (.array .int)) (by decide) rfl rfl lo_a (n := 76) rfl ?_
  intro T h47 P W48
  replace E_a := Exa.wr W48 E_a
  replace F_un := Fld.other W48 F_un (Or.inr (slot_ne (Or.inl (hw _ (List.mem_of_getElem? (i := 39) rfl))) (Or.inl (hw _ (List.mem_of_getElem? (i := 27) rfl))) (by decide) (t := .int) (t' := (.array .int)) (by decide) (by decide)))
  replace F_us := Fld.other W48 F_us (Or.inr (slot_ne (Or.inl (hw _ (List.mem_of_getElem? (i := 41) rfl))) (Or.inl (hw _ (List.mem_of_getElem? (i := 27) rfl))) (by decide) (t := .int) (t' := (.array .int)) (by decide) (by decide)))
  replace F_0 := Fld.other W48 F_0 (Or.inr (slot_ne (Or.inl (hw _ (List.mem_of_getElem? (i := 12) rfl))) (Or.inl (hw _ (List.mem_of_getElem? (i := 27) rfl))) (by decide) (t := (.array .long)) (t' := (.array .int)) (by decide) (by decide)))
  replace F_1 := Fld.other W48 F_1 (Or.inr (slot_ne (Or.inl (hw _ (List.mem_of_getElem? (i := 15) rfl))) (Or.inl (hw _ (List.mem_of_getElem? (i := 27) rfl))) (by decide) (t := (.array .int)) (t' := (.array .int)) (by decide) (by decide)))
  replace F_2 := Fld.other W48 F_2 (Or.inr (slot_ne (Or.inl (hw _ (List.mem_of_getElem? (i := 17) rfl))) (Or.inl (hw _ (List.mem_of_getElem? (i := 27) rfl))) (by decide) (t := (.array .long)) (t' := (.array .int)) (by decide) (by decide)))
  replace F_3 := Fld.other W48 F_3 (Or.inr (slot_ne (Or.inl (hw _ (List.mem_of_getElem? (i := 19) rfl))) (Or.inl (hw _ (List.mem_of_getElem? (i := 27) rfl))) (by decide) (t := (.array .int)) (t' := (.array .int)) (by decide) (by decide)))
  replace F_4 := Fld.other W48 F_4 (Or.inr (slot_ne (Or.inl (hw _ (List.mem_of_getElem? (i := 21) rfl))) (Or.inl (hw _ (List.mem_of_getElem? (i := 27) rfl))) (by decide) (t := (.array .long)) (t' := (.array .int)) (by decide) (by decide)))
  replace F_5 := Fld.other W48 F_5 (Or.inr (slot_ne (Or.inl (hw _ (List.mem_of_getElem? (i := 23) rfl))) (Or.inl (hw _ (List.mem_of_getElem? (i := 27) rfl))) (by decide) (t := (.array .int)) (t' := (.array .int)) (by decide) (by decide)))
  replace F_6 := Fld.other W48 F_6 (Or.inr (slot_ne (Or.inl (hw _ (List.mem_of_getElem? (i := 25) rfl))) (Or.inl (hw _ (List.mem_of_getElem? (i := 27) rfl))) (by decide) (t := (.array .long)) (t' := (.array .int)) (by decide) (by decide)))
  replace F_8 := Fld.other W48 F_8 (Or.inr (slot_ne (Or.inl (hw _ (List.mem_of_getElem? (i := 31) rfl))) (Or.inl (hw _ (List.mem_of_getElem? (i := 27) rfl))) (by decide) (t := (.array (.array .int))) (t' := (.array .int)) (by decide) (by decide)))
  replace F_9 := Fld.other W48 F_9 (Or.inr (slot_ne (Or.inl (hw _ (List.mem_of_getElem? (i := 33) rfl))) (Or.inl (hw _ (List.mem_of_getElem? (i := 27) rfl))) (by decide) (t := (.array .int)) (t' := (.array .int)) (by decide) (by decide)))
  replace F_10 := Fld.other W48 F_10 (Or.inr (slot_ne (Or.inl (hw _ (List.mem_of_getElem? (i := 35) rfl))) (Or.inl (hw _ (List.mem_of_getElem? (i := 27) rfl))) (by decide) (t := (.array .int)) (t' := (.array .int)) (by decide) (by decide)))
  replace F_11 := Fld.other W48 F_11 (Or.inr (slot_ne (Or.inl (hw _ (List.mem_of_getElem? (i := 37) rfl))) (Or.inl (hw _ (List.mem_of_getElem? (i := 27) rfl))) (by decide) (t := (.array .int)) (t' := (.array .int)) (by decide) (by decide)))
  replace A_b1 := A_b1.other W48 (Ne.symm ne_a_b1)
  replace A_b7 := A_b7.other W48 (Ne.symm ne_a_b7)
  replace A_b13 := A_b13.other W48 (Ne.symm ne_a_b13)
  replace A_b19 := A_b19.other W48 (Ne.symm ne_a_b19)
  replace A_b25 := A_b25.other W48 (Ne.symm ne_a_b25)
  replace A_b31 := A_b31.other W48 (Ne.symm ne_a_b31)
  replace A_b37 := A_b37.other W48 (Ne.symm ne_a_b37)
  replace A_b43 := A_b43.other W48 (Ne.symm ne_a_b43)
  replace F_7 := Fld.same W48 F_7
  refine aloadN P d1_76 rfl rfl (n := 77) rfl ?_
  refine sipush P d1_77 (x := (1024 : Int32)) rfl (n := 80) rfl ?_
  have ltp : b43 < h47.size := A_b43.lt
  refine newRA P d1_80 (ty := .int) (C := "[I") (ad := "[[I") (by decide) (by decide) (hw _ (List.mem_of_getElem? (i := 28) rfl)) (hw _ (List.mem_of_getElem? (i := 29) rfl)) (k := 1024) (cap := 1024) ⟨rfl, by decide⟩ (by decide) (by decide) (n := 83) rfl ?_
  intro T h50 b49 P X51 g52 lo_b49 A_b49
  have ne_a_b49 : a ≠ b49 := Nat.ne_of_lt (g52 ▸ E_a.lt)
  have ne_b1_b49 : b1 ≠ b49 := Nat.ne_of_lt (g52 ▸ A_b1.lt)
  have ne_b13_b49 : b13 ≠ b49 := Nat.ne_of_lt (g52 ▸ A_b13.lt)
  have ne_b19_b49 : b19 ≠ b49 := Nat.ne_of_lt (g52 ▸ A_b19.lt)
  have ne_b25_b49 : b25 ≠ b49 := Nat.ne_of_lt (g52 ▸ A_b25.lt)
  have ne_b31_b49 : b31 ≠ b49 := Nat.ne_of_lt (g52 ▸ A_b31.lt)
  have ne_b37_b49 : b37 ≠ b49 := Nat.ne_of_lt (g52 ▸ A_b37.lt)
  have ne_b43_b49 : b43 ≠ b49 := Nat.ne_of_lt (g52 ▸ A_b43.lt)
  have ne_b7_b49 : b7 ≠ b49 := Nat.ne_of_lt (g52 ▸ A_b7.lt)
  replace E_a := Exa.ext X51 E_a
  replace F_un := Fld.ext X51 F_un
  replace F_us := Fld.ext X51 F_us
  replace F_0 := Fld.ext X51 F_0
  replace F_1 := Fld.ext X51 F_1
  replace F_2 := Fld.ext X51 F_2
  replace F_3 := Fld.ext X51 F_3
  replace F_4 := Fld.ext X51 F_4
  replace F_5 := Fld.ext X51 F_5
  replace F_6 := Fld.ext X51 F_6
  replace F_7 := Fld.ext X51 F_7
  replace F_8 := Fld.ext X51 F_8
  replace F_9 := Fld.ext X51 F_9
  replace F_10 := Fld.ext X51 F_10
  replace F_11 := Fld.ext X51 F_11
  replace A_b1 := A_b1.ext X51
  replace A_b7 := A_b7.ext X51
  replace A_b13 := A_b13.ext X51
  replace A_b19 := A_b19.ext X51
  replace A_b25 := A_b25.ext X51
  replace A_b31 := A_b31.ext X51
  replace A_b37 := A_b37.ext X51
  replace A_b43 := A_b43.ext X51
  have lt_b49 : b43 < b49 := g52 ▸ ltp
  refine putF P d1_83 (hw _ (List.mem_of_getElem? (i := 30) rfl)) F_8 E_a (Or.inl (hw _ (List.mem_of_getElem? (i := 31) rfl))) (hw _ (List.mem_of_getElem? (i := 2) rfl)) (ty := (.array (.array .int))) (by decide) rfl rfl lo_a (n := 86) rfl ?_
  intro T h53 P W54
  replace E_a := Exa.wr W54 E_a
  replace F_un := Fld.other W54 F_un (Or.inr (slot_ne (Or.inl (hw _ (List.mem_of_getElem? (i := 39) rfl))) (Or.inl (hw _ (List.mem_of_getElem? (i := 31) rfl))) (by decide) (t := .int) (t' := (.array (.array .int))) (by decide) (by decide)))
  replace F_us := Fld.other W54 F_us (Or.inr (slot_ne (Or.inl (hw _ (List.mem_of_getElem? (i := 41) rfl))) (Or.inl (hw _ (List.mem_of_getElem? (i := 31) rfl))) (by decide) (t := .int) (t' := (.array (.array .int))) (by decide) (by decide)))
  replace F_0 := Fld.other W54 F_0 (Or.inr (slot_ne (Or.inl (hw _ (List.mem_of_getElem? (i := 12) rfl))) (Or.inl (hw _ (List.mem_of_getElem? (i := 31) rfl))) (by decide) (t := (.array .long)) (t' := (.array (.array .int))) (by decide) (by decide)))
  replace F_1 := Fld.other W54 F_1 (Or.inr (slot_ne (Or.inl (hw _ (List.mem_of_getElem? (i := 15) rfl))) (Or.inl (hw _ (List.mem_of_getElem? (i := 31) rfl))) (by decide) (t := (.array .int)) (t' := (.array (.array .int))) (by decide) (by decide)))
  replace F_2 := Fld.other W54 F_2 (Or.inr (slot_ne (Or.inl (hw _ (List.mem_of_getElem? (i := 17) rfl))) (Or.inl (hw _ (List.mem_of_getElem? (i := 31) rfl))) (by decide) (t := (.array .long)) (t' := (.array (.array .int))) (by decide) (by decide)))
  replace F_3 := Fld.other W54 F_3 (Or.inr (slot_ne (Or.inl (hw _ (List.mem_of_getElem? (i := 19) rfl))) (Or.inl (hw _ (List.mem_of_getElem? (i := 31) rfl))) (by decide) (t := (.array .int)) (t' := (.array (.array .int))) (by decide) (by decide)))
  replace F_4 := Fld.other W54 F_4 (Or.inr (slot_ne (Or.inl (hw _ (List.mem_of_getElem? (i := 21) rfl))) (Or.inl (hw _ (List.mem_of_getElem? (i := 31) rfl))) (by decide) (t := (.array .long)) (t' := (.array (.array .int))) (by decide) (by decide)))
  replace F_5 := Fld.other W54 F_5 (Or.inr (slot_ne (Or.inl (hw _ (List.mem_of_getElem? (i := 23) rfl))) (Or.inl (hw _ (List.mem_of_getElem? (i := 31) rfl))) (by decide) (t := (.array .int)) (t' := (.array (.array .int))) (by decide) (by decide)))
  replace F_6 := Fld.other W54 F_6 (Or.inr (slot_ne (Or.inl (hw _ (List.mem_of_getElem? (i := 25) rfl))) (Or.inl (hw _ (List.mem_of_getElem? (i := 31) rfl))) (by decide) (t := (.array .long)) (t' := (.array (.array .int))) (by decide) (by decide)))
  replace F_7 := Fld.other W54 F_7 (Or.inr (slot_ne (Or.inl (hw _ (List.mem_of_getElem? (i := 27) rfl))) (Or.inl (hw _ (List.mem_of_getElem? (i := 31) rfl))) (by decide) (t := (.array .int)) (t' := (.array (.array .int))) (by decide) (by decide)))
  replace F_9 := Fld.other W54 F_9 (Or.inr (slot_ne (Or.inl (hw _ (List.mem_of_getElem? (i := 33) rfl))) (Or.inl (hw _ (List.mem_of_getElem? (i := 31) rfl))) (by decide) (t := (.array .int)) (t' := (.array (.array .int))) (by decide) (by decide)))
  replace F_10 := Fld.other W54 F_10 (Or.inr (slot_ne (Or.inl (hw _ (List.mem_of_getElem? (i := 35) rfl))) (Or.inl (hw _ (List.mem_of_getElem? (i := 31) rfl))) (by decide) (t := (.array .int)) (t' := (.array (.array .int))) (by decide) (by decide)))
  replace F_11 := Fld.other W54 F_11 (Or.inr (slot_ne (Or.inl (hw _ (List.mem_of_getElem? (i := 37) rfl))) (Or.inl (hw _ (List.mem_of_getElem? (i := 31) rfl))) (by decide) (t := (.array .int)) (t' := (.array (.array .int))) (by decide) (by decide)))
  replace A_b1 := A_b1.other W54 (Ne.symm ne_a_b1)
  replace A_b7 := A_b7.other W54 (Ne.symm ne_a_b7)
  replace A_b13 := A_b13.other W54 (Ne.symm ne_a_b13)
  replace A_b19 := A_b19.other W54 (Ne.symm ne_a_b19)
  replace A_b25 := A_b25.other W54 (Ne.symm ne_a_b25)
  replace A_b31 := A_b31.other W54 (Ne.symm ne_a_b31)
  replace A_b37 := A_b37.other W54 (Ne.symm ne_a_b37)
  replace A_b43 := A_b43.other W54 (Ne.symm ne_a_b43)
  replace A_b49 := A_b49.other W54 (Ne.symm ne_a_b49)
  replace F_8 := Fld.same W54 F_8
  refine aloadN P d1_86 rfl rfl (n := 87) rfl ?_
  refine sipush P d1_87 (x := (1024 : Int32)) rfl (n := 90) rfl ?_
  have ltp : b49 < h53.size := A_b49.lt
  refine newP P d1_90 (hw _ (List.mem_of_getElem? (i := 13) rfl)) (k := 1024) (cap := 1024) ⟨rfl, by decide⟩ (by decide) (by decide) (n := 92) rfl ?_
  intro T h56 b55 P X57 g58 lo_b55 A_b55
  have ne_a_b55 : a ≠ b55 := Nat.ne_of_lt (g58 ▸ E_a.lt)
  have ne_b1_b55 : b1 ≠ b55 := Nat.ne_of_lt (g58 ▸ A_b1.lt)
  have ne_b13_b55 : b13 ≠ b55 := Nat.ne_of_lt (g58 ▸ A_b13.lt)
  have ne_b19_b55 : b19 ≠ b55 := Nat.ne_of_lt (g58 ▸ A_b19.lt)
  have ne_b25_b55 : b25 ≠ b55 := Nat.ne_of_lt (g58 ▸ A_b25.lt)
  have ne_b31_b55 : b31 ≠ b55 := Nat.ne_of_lt (g58 ▸ A_b31.lt)
  have ne_b37_b55 : b37 ≠ b55 := Nat.ne_of_lt (g58 ▸ A_b37.lt)
  have ne_b43_b55 : b43 ≠ b55 := Nat.ne_of_lt (g58 ▸ A_b43.lt)
  have ne_b49_b55 : b49 ≠ b55 := Nat.ne_of_lt (g58 ▸ A_b49.lt)
  have ne_b7_b55 : b7 ≠ b55 := Nat.ne_of_lt (g58 ▸ A_b7.lt)
  replace E_a := Exa.ext X57 E_a
  replace F_un := Fld.ext X57 F_un
  replace F_us := Fld.ext X57 F_us
  replace F_0 := Fld.ext X57 F_0
  replace F_1 := Fld.ext X57 F_1
  replace F_2 := Fld.ext X57 F_2
  replace F_3 := Fld.ext X57 F_3
  replace F_4 := Fld.ext X57 F_4
  replace F_5 := Fld.ext X57 F_5
  replace F_6 := Fld.ext X57 F_6
  replace F_7 := Fld.ext X57 F_7
  replace F_8 := Fld.ext X57 F_8
  replace F_9 := Fld.ext X57 F_9
  replace F_10 := Fld.ext X57 F_10
  replace F_11 := Fld.ext X57 F_11
  replace A_b1 := A_b1.ext X57
  replace A_b7 := A_b7.ext X57
  replace A_b13 := A_b13.ext X57
  replace A_b19 := A_b19.ext X57
  replace A_b25 := A_b25.ext X57
  replace A_b31 := A_b31.ext X57
  replace A_b37 := A_b37.ext X57
  replace A_b43 := A_b43.ext X57
  replace A_b49 := A_b49.ext X57
  replace A_b55 : ARI Z h56 b55 .int 1024 (fun _ => 0) := A_b55
  have lt_b55 : b49 < b55 := g58 ▸ ltp
  refine putF P d1_92 (hw _ (List.mem_of_getElem? (i := 32) rfl)) F_9 E_a (Or.inl (hw _ (List.mem_of_getElem? (i := 33) rfl))) (hw _ (List.mem_of_getElem? (i := 2) rfl)) (ty := (.array .int)) (by decide) rfl rfl lo_a (n := 95) rfl ?_
  intro T h59 P W60
  replace E_a := Exa.wr W60 E_a
  replace F_un := Fld.other W60 F_un (Or.inr (slot_ne (Or.inl (hw _ (List.mem_of_getElem? (i := 39) rfl))) (Or.inl (hw _ (List.mem_of_getElem? (i := 33) rfl))) (by decide) (t := .int) (t' := (.array .int)) (by decide) (by decide)))
  replace F_us := Fld.other W60 F_us (Or.inr (slot_ne (Or.inl (hw _ (List.mem_of_getElem? (i := 41) rfl))) (Or.inl (hw _ (List.mem_of_getElem? (i := 33) rfl))) (by decide) (t := .int) (t' := (.array .int)) (by decide) (by decide)))
  replace F_0 := Fld.other W60 F_0 (Or.inr (slot_ne (Or.inl (hw _ (List.mem_of_getElem? (i := 12) rfl))) (Or.inl (hw _ (List.mem_of_getElem? (i := 33) rfl))) (by decide) (t := (.array .long)) (t' := (.array .int)) (by decide) (by decide)))
  replace F_1 := Fld.other W60 F_1 (Or.inr (slot_ne (Or.inl (hw _ (List.mem_of_getElem? (i := 15) rfl))) (Or.inl (hw _ (List.mem_of_getElem? (i := 33) rfl))) (by decide) (t := (.array .int)) (t' := (.array .int)) (by decide) (by decide)))
  replace F_2 := Fld.other W60 F_2 (Or.inr (slot_ne (Or.inl (hw _ (List.mem_of_getElem? (i := 17) rfl))) (Or.inl (hw _ (List.mem_of_getElem? (i := 33) rfl))) (by decide) (t := (.array .long)) (t' := (.array .int)) (by decide) (by decide)))
  replace F_3 := Fld.other W60 F_3 (Or.inr (slot_ne (Or.inl (hw _ (List.mem_of_getElem? (i := 19) rfl))) (Or.inl (hw _ (List.mem_of_getElem? (i := 33) rfl))) (by decide) (t := (.array .int)) (t' := (.array .int)) (by decide) (by decide)))
  replace F_4 := Fld.other W60 F_4 (Or.inr (slot_ne (Or.inl (hw _ (List.mem_of_getElem? (i := 21) rfl))) (Or.inl (hw _ (List.mem_of_getElem? (i := 33) rfl))) (by decide) (t := (.array .long)) (t' := (.array .int)) (by decide) (by decide)))
  replace F_5 := Fld.other W60 F_5 (Or.inr (slot_ne (Or.inl (hw _ (List.mem_of_getElem? (i := 23) rfl))) (Or.inl (hw _ (List.mem_of_getElem? (i := 33) rfl))) (by decide) (t := (.array .int)) (t' := (.array .int)) (by decide) (by decide)))
  replace F_6 := Fld.other W60 F_6 (Or.inr (slot_ne (Or.inl (hw _ (List.mem_of_getElem? (i := 25) rfl))) (Or.inl (hw _ (List.mem_of_getElem? (i := 33) rfl))) (by decide) (t := (.array .long)) (t' := (.array .int)) (by decide) (by decide)))
  replace F_7 := Fld.other W60 F_7 (Or.inr (slot_ne (Or.inl (hw _ (List.mem_of_getElem? (i := 27) rfl))) (Or.inl (hw _ (List.mem_of_getElem? (i := 33) rfl))) (by decide) (t := (.array .int)) (t' := (.array .int)) (by decide) (by decide)))
  replace F_8 := Fld.other W60 F_8 (Or.inr (slot_ne (Or.inl (hw _ (List.mem_of_getElem? (i := 31) rfl))) (Or.inl (hw _ (List.mem_of_getElem? (i := 33) rfl))) (by decide) (t := (.array (.array .int))) (t' := (.array .int)) (by decide) (by decide)))
  replace F_10 := Fld.other W60 F_10 (Or.inr (slot_ne (Or.inl (hw _ (List.mem_of_getElem? (i := 35) rfl))) (Or.inl (hw _ (List.mem_of_getElem? (i := 33) rfl))) (by decide) (t := (.array .int)) (t' := (.array .int)) (by decide) (by decide)))
  replace F_11 := Fld.other W60 F_11 (Or.inr (slot_ne (Or.inl (hw _ (List.mem_of_getElem? (i := 37) rfl))) (Or.inl (hw _ (List.mem_of_getElem? (i := 33) rfl))) (by decide) (t := (.array .int)) (t' := (.array .int)) (by decide) (by decide)))
  replace A_b1 := A_b1.other W60 (Ne.symm ne_a_b1)
  replace A_b7 := A_b7.other W60 (Ne.symm ne_a_b7)
  replace A_b13 := A_b13.other W60 (Ne.symm ne_a_b13)
  replace A_b19 := A_b19.other W60 (Ne.symm ne_a_b19)
  replace A_b25 := A_b25.other W60 (Ne.symm ne_a_b25)
  replace A_b31 := A_b31.other W60 (Ne.symm ne_a_b31)
  replace A_b37 := A_b37.other W60 (Ne.symm ne_a_b37)
  replace A_b43 := A_b43.other W60 (Ne.symm ne_a_b43)
  replace A_b49 := A_b49.other W60 (Ne.symm ne_a_b49)
  replace A_b55 := A_b55.other W60 (Ne.symm ne_a_b55)
  replace F_9 := Fld.same W60 F_9
  refine aloadN P d1_95 rfl rfl (n := 96) rfl ?_
  refine sipush P d1_96 (x := (1024 : Int32)) rfl (n := 99) rfl ?_
  have ltp : b55 < h59.size := A_b55.lt
  refine newP P d1_99 (hw _ (List.mem_of_getElem? (i := 13) rfl)) (k := 1024) (cap := 1024) ⟨rfl, by decide⟩ (by decide) (by decide) (n := 101) rfl ?_
  intro T h62 b61 P X63 g64 lo_b61 A_b61
  have ne_a_b61 : a ≠ b61 := Nat.ne_of_lt (g64 ▸ E_a.lt)
  have ne_b1_b61 : b1 ≠ b61 := Nat.ne_of_lt (g64 ▸ A_b1.lt)
  have ne_b13_b61 : b13 ≠ b61 := Nat.ne_of_lt (g64 ▸ A_b13.lt)
  have ne_b19_b61 : b19 ≠ b61 := Nat.ne_of_lt (g64 ▸ A_b19.lt)
  have ne_b25_b61 : b25 ≠ b61 := Nat.ne_of_lt (g64 ▸ A_b25.lt)
  have ne_b31_b61 : b31 ≠ b61 := Nat.ne_of_lt (g64 ▸ A_b31.lt)
  have ne_b37_b61 : b37 ≠ b61 := Nat.ne_of_lt (g64 ▸ A_b37.lt)
  have ne_b43_b61 : b43 ≠ b61 := Nat.ne_of_lt (g64 ▸ A_b43.lt)
  have ne_b49_b61 : b49 ≠ b61 := Nat.ne_of_lt (g64 ▸ A_b49.lt)
  have ne_b55_b61 : b55 ≠ b61 := Nat.ne_of_lt (g64 ▸ A_b55.lt)
  have ne_b7_b61 : b7 ≠ b61 := Nat.ne_of_lt (g64 ▸ A_b7.lt)
  replace E_a := Exa.ext X63 E_a
  replace F_un := Fld.ext X63 F_un
  replace F_us := Fld.ext X63 F_us
  replace F_0 := Fld.ext X63 F_0
  replace F_1 := Fld.ext X63 F_1
  replace F_2 := Fld.ext X63 F_2
  replace F_3 := Fld.ext X63 F_3
  replace F_4 := Fld.ext X63 F_4
  replace F_5 := Fld.ext X63 F_5
  replace F_6 := Fld.ext X63 F_6
  replace F_7 := Fld.ext X63 F_7
  replace F_8 := Fld.ext X63 F_8
  replace F_9 := Fld.ext X63 F_9
  replace F_10 := Fld.ext X63 F_10
  replace F_11 := Fld.ext X63 F_11
  replace A_b1 := A_b1.ext X63
  replace A_b7 := A_b7.ext X63
  replace A_b13 := A_b13.ext X63
  replace A_b19 := A_b19.ext X63
  replace A_b25 := A_b25.ext X63
  replace A_b31 := A_b31.ext X63
  replace A_b37 := A_b37.ext X63
  replace A_b43 := A_b43.ext X63
  replace A_b49 := A_b49.ext X63
  replace A_b55 := A_b55.ext X63
  replace A_b61 : ARI Z h62 b61 .int 1024 (fun _ => 0) := A_b61
  have lt_b61 : b55 < b61 := g64 ▸ ltp
  refine putF P d1_101 (hw _ (List.mem_of_getElem? (i := 34) rfl)) F_10 E_a (Or.inl (hw _ (List.mem_of_getElem? (i := 35) rfl))) (hw _ (List.mem_of_getElem? (i := 2) rfl)) (ty := (.array .int)) (by decide) rfl rfl lo_a (n := 104) rfl ?_
  intro T h65 P W66
  replace E_a := Exa.wr W66 E_a
  replace F_un := Fld.other W66 F_un (Or.inr (slot_ne (Or.inl (hw _ (List.mem_of_getElem? (i := 39) rfl))) (Or.inl (hw _ (List.mem_of_getElem? (i := 35) rfl))) (by decide) (t := .int) (t' := (.array .int)) (by decide) (by decide)))
  replace F_us := Fld.other W66 F_us (Or.inr (slot_ne (Or.inl (hw _ (List.mem_of_getElem? (i := 41) rfl))) (Or.inl (hw _ (List.mem_of_getElem? (i := 35) rfl))) (by decide) (t := .int) (t' := (.array .int)) (by decide) (by decide)))
  replace F_0 := Fld.other W66 F_0 (Or.inr (slot_ne (Or.inl (hw _ (List.mem_of_getElem? (i := 12) rfl))) (Or.inl (hw _ (List.mem_of_getElem? (i := 35) rfl))) (by decide) (t := (.array .long)) (t' := (.array .int)) (by decide) (by decide)))
  replace F_1 := Fld.other W66 F_1 (Or.inr (slot_ne (Or.inl (hw _ (List.mem_of_getElem? (i := 15) rfl))) (Or.inl (hw _ (List.mem_of_getElem? (i := 35) rfl))) (by decide) (t := (.array .int)) (t' := (.array .int)) (by decide) (by decide)))
  replace F_2 := Fld.other W66 F_2 (Or.inr (slot_ne (Or.inl (hw _ (List.mem_of_getElem? (i := 17) rfl))) (Or.inl (hw _ (List.mem_of_getElem? (i := 35) rfl))) (by decide) (t := (.array .long)) (t' := (.array .int)) (by decide) (by decide)))
  replace F_3 := Fld.other W66 F_3 (Or.inr (slot_ne (Or.inl (hw _ (List.mem_of_getElem? (i := 19) rfl))) (Or.inl (hw _ (List.mem_of_getElem? (i := 35) rfl))) (by decide) (t := (.array .int)) (t' := (.array .int)) (by decide) (by decide)))
  replace F_4 := Fld.other W66 F_4 (Or.inr (slot_ne (Or.inl (hw _ (List.mem_of_getElem? (i := 21) rfl))) (Or.inl (hw _ (List.mem_of_getElem? (i := 35) rfl))) (by decide) (t := (.array .long)) (t' := (.array .int)) (by decide) (by decide)))
  replace F_5 := Fld.other W66 F_5 (Or.inr (slot_ne (Or.inl (hw _ (List.mem_of_getElem? (i := 23) rfl))) (Or.inl (hw _ (List.mem_of_getElem? (i := 35) rfl))) (by decide) (t := (.array .int)) (t' := (.array .int)) (by decide) (by decide)))
  replace F_6 := Fld.other W66 F_6 (Or.inr (slot_ne (Or.inl (hw _ (List.mem_of_getElem? (i := 25) rfl))) (Or.inl (hw _ (List.mem_of_getElem? (i := 35) rfl))) (by decide) (t := (.array .long)) (t' := (.array .int)) (by decide) (by decide)))
  replace F_7 := Fld.other W66 F_7 (Or.inr (slot_ne (Or.inl (hw _ (List.mem_of_getElem? (i := 27) rfl))) (Or.inl (hw _ (List.mem_of_getElem? (i := 35) rfl))) (by decide) (t := (.array .int)) (t' := (.array .int)) (by decide) (by decide)))
  replace F_8 := Fld.other W66 F_8 (Or.inr (slot_ne (Or.inl (hw _ (List.mem_of_getElem? (i := 31) rfl))) (Or.inl (hw _ (List.mem_of_getElem? (i := 35) rfl))) (by decide) (t := (.array (.array .int))) (t' := (.array .int)) (by decide) (by decide)))
  replace F_9 := Fld.other W66 F_9 (Or.inr (slot_ne (Or.inl (hw _ (List.mem_of_getElem? (i := 33) rfl))) (Or.inl (hw _ (List.mem_of_getElem? (i := 35) rfl))) (by decide) (t := (.array .int)) (t' := (.array .int)) (by decide) (by decide)))
  replace F_11 := Fld.other W66 F_11 (Or.inr (slot_ne (Or.inl (hw _ (List.mem_of_getElem? (i := 37) rfl))) (Or.inl (hw _ (List.mem_of_getElem? (i := 35) rfl))) (by decide) (t := (.array .int)) (t' := (.array .int)) (by decide) (by decide)))
  replace A_b1 := A_b1.other W66 (Ne.symm ne_a_b1)
  replace A_b7 := A_b7.other W66 (Ne.symm ne_a_b7)
  replace A_b13 := A_b13.other W66 (Ne.symm ne_a_b13)
  replace A_b19 := A_b19.other W66 (Ne.symm ne_a_b19)
  replace A_b25 := A_b25.other W66 (Ne.symm ne_a_b25)
  replace A_b31 := A_b31.other W66 (Ne.symm ne_a_b31)
  replace A_b37 := A_b37.other W66 (Ne.symm ne_a_b37)
  replace A_b43 := A_b43.other W66 (Ne.symm ne_a_b43)
  replace A_b49 := A_b49.other W66 (Ne.symm ne_a_b49)
  replace A_b55 := A_b55.other W66 (Ne.symm ne_a_b55)
  replace A_b61 := A_b61.other W66 (Ne.symm ne_a_b61)
  replace F_10 := Fld.same W66 F_10
  refine aloadN P d1_104 rfl rfl (n := 105) rfl ?_
  refine sipush P d1_105 (x := (1024 : Int32)) rfl (n := 108) rfl ?_
  have ltp : b61 < h65.size := A_b61.lt
  refine newP P d1_108 (hw _ (List.mem_of_getElem? (i := 13) rfl)) (k := 1024) (cap := 1024) ⟨rfl, by decide⟩ (by decide) (by decide) (n := 110) rfl ?_
  intro T h68 b67 P X69 g70 lo_b67 A_b67
  have ne_a_b67 : a ≠ b67 := Nat.ne_of_lt (g70 ▸ E_a.lt)
  have ne_b1_b67 : b1 ≠ b67 := Nat.ne_of_lt (g70 ▸ A_b1.lt)
  have ne_b13_b67 : b13 ≠ b67 := Nat.ne_of_lt (g70 ▸ A_b13.lt)
  have ne_b19_b67 : b19 ≠ b67 := Nat.ne_of_lt (g70 ▸ A_b19.lt)
  have ne_b25_b67 : b25 ≠ b67 := Nat.ne_of_lt (g70 ▸ A_b25.lt)
  have ne_b31_b67 : b31 ≠ b67 := Nat.ne_of_lt (g70 ▸ A_b31.lt)
  have ne_b37_b67 : b37 ≠ b67 := Nat.ne_of_lt (g70 ▸ A_b37.lt)
  have ne_b43_b67 : b43 ≠ b67 := Nat.ne_of_lt (g70 ▸ A_b43.lt)
  have ne_b49_b67 : b49 ≠ b67 := Nat.ne_of_lt (g70 ▸ A_b49.lt)
  have ne_b55_b67 : b55 ≠ b67 := Nat.ne_of_lt (g70 ▸ A_b55.lt)
  have ne_b61_b67 : b61 ≠ b67 := Nat.ne_of_lt (g70 ▸ A_b61.lt)
  have ne_b7_b67 : b7 ≠ b67 := Nat.ne_of_lt (g70 ▸ A_b7.lt)
  replace E_a := Exa.ext X69 E_a
  replace F_un := Fld.ext X69 F_un
  replace F_us := Fld.ext X69 F_us
  replace F_0 := Fld.ext X69 F_0
  replace F_1 := Fld.ext X69 F_1
  replace F_2 := Fld.ext X69 F_2
  replace F_3 := Fld.ext X69 F_3
  replace F_4 := Fld.ext X69 F_4
  replace F_5 := Fld.ext X69 F_5
  replace F_6 := Fld.ext X69 F_6
  replace F_7 := Fld.ext X69 F_7
  replace F_8 := Fld.ext X69 F_8
  replace F_9 := Fld.ext X69 F_9
  replace F_10 := Fld.ext X69 F_10
  replace F_11 := Fld.ext X69 F_11
  replace A_b1 := A_b1.ext X69
  replace A_b7 := A_b7.ext X69
  replace A_b13 := A_b13.ext X69
  replace A_b19 := A_b19.ext X69
  replace A_b25 := A_b25.ext X69
  replace A_b31 := A_b31.ext X69
  replace A_b37 := A_b37.ext X69
  replace A_b43 := A_b43.ext X69
  replace A_b49 := A_b49.ext X69
  replace A_b55 := A_b55.ext X69
  replace A_b61 := A_b61.ext X69
  replace A_b67 : ARI Z h68 b67 .int 1024 (fun _ => 0) := A_b67
  have lt_b67 : b61 < b67 := g70 ▸ ltp
  refine putF P d1_110 (hw _ (List.mem_of_getElem? (i := 36) rfl)) F_11 E_a (Or.inl (hw _ (List.mem_of_getElem? (i := 37) rfl))) (hw _ (List.mem_of_getElem? (i := 2) rfl)) (ty := (.array .int)) (by decide) rfl rfl lo_a (n := 113) rfl ?_
  intro T h71 P W72
  replace E_a := Exa.wr W72 E_a
  replace F_un := Fld.other W72 F_un (Or.inr (slot_ne (Or.inl (hw _ (List.mem_of_getElem? (i := 39) rfl))) (Or.inl (hw _ (List.mem_of_getElem? (i := 37) rfl))) (by decide) (t := .int) (t' := (.array .int)) (by decide) (by decide)))
  replace F_us := Fld.other W72 F_us (Or.inr (slot_ne (Or.inl (hw _ (List.mem_of_getElem? (i := 41) rfl))) (Or.inl (hw _ (List.mem_of_getElem? (i := 37) rfl))) (by decide) (t := .int) (t' := (.array .int)) (by decide) (by decide)))
  replace F_0 := Fld.other W72 F_0 (Or.inr (slot_ne (Or.inl (hw _ (List.mem_of_getElem? (i := 12) rfl))) (Or.inl (hw _ (List.mem_of_getElem? (i := 37) rfl))) (by decide) (t := (.array .long)) (t' := (.array .int)) (by decide) (by decide)))
  replace F_1 := Fld.other W72 F_1 (Or.inr (slot_ne (Or.inl (hw _ (List.mem_of_getElem? (i := 15) rfl))) (Or.inl (hw _ (List.mem_of_getElem? (i := 37) rfl))) (by decide) (t := (.array .int)) (t' := (.array .int)) (by decide) (by decide)))
  replace F_2 := Fld.other W72 F_2 (Or.inr (slot_ne (Or.inl (hw _ (List.mem_of_getElem? (i := 17) rfl))) (Or.inl (hw _ (List.mem_of_getElem? (i := 37) rfl))) (by decide) (t := (.array .long)) (t' := (.array .int)) (by decide) (by decide)))
  replace F_3 := Fld.other W72 F_3 (Or.inr (slot_ne (Or.inl (hw _ (List.mem_of_getElem? (i := 19) rfl))) (Or.inl (hw _ (List.mem_of_getElem? (i := 37) rfl))) (by decide) (t := (.array .int)) (t' := (.array .int)) (by decide) (by decide)))
  replace F_4 := Fld.other W72 F_4 (Or.inr (slot_ne (Or.inl (hw _ (List.mem_of_getElem? (i := 21) rfl))) (Or.inl (hw _ (List.mem_of_getElem? (i := 37) rfl))) (by decide) (t := (.array .long)) (t' := (.array .int)) (by decide) (by decide)))
  replace F_5 := Fld.other W72 F_5 (Or.inr (slot_ne (Or.inl (hw _ (List.mem_of_getElem? (i := 23) rfl))) (Or.inl (hw _ (List.mem_of_getElem? (i := 37) rfl))) (by decide) (t := (.array .int)) (t' := (.array .int)) (by decide) (by decide)))
  replace F_6 := Fld.other W72 F_6 (Or.inr (slot_ne (Or.inl (hw _ (List.mem_of_getElem? (i := 25) rfl))) (Or.inl (hw _ (List.mem_of_getElem? (i := 37) rfl))) (by decide) (t := (.array .long)) (t' := (.array .int)) (by decide) (by decide)))
  replace F_7 := Fld.other W72 F_7 (Or.inr (slot_ne (Or.inl (hw _ (List.mem_of_getElem? (i := 27) rfl))) (Or.inl (hw _ (List.mem_of_getElem? (i := 37) rfl))) (by decide) (t := (.array .int)) (t' := (.array .int)) (by decide) (by decide)))
  replace F_8 := Fld.other W72 F_8 (Or.inr (slot_ne (Or.inl (hw _ (List.mem_of_getElem? (i := 31) rfl))) (Or.inl (hw _ (List.mem_of_getElem? (i := 37) rfl))) (by decide) (t := (.array (.array .int))) (t' := (.array .int)) (by decide) (by decide)))
  replace F_9 := Fld.other W72 F_9 (Or.inr (slot_ne (Or.inl (hw _ (List.mem_of_getElem? (i := 33) rfl))) (Or.inl (hw _ (List.mem_of_getElem? (i := 37) rfl))) (by decide) (t := (.array .int)) (t' := (.array .int)) (by decide) (by decide)))
  replace F_10 := Fld.other W72 F_10 (Or.inr (slot_ne (Or.inl (hw _ (List.mem_of_getElem? (i := 35) rfl))) (Or.inl (hw _ (List.mem_of_getElem? (i := 37) rfl))) (by decide) (t := (.array .int)) (t' := (.array .int)) (by decide) (by decide)))
  replace A_b1 := A_b1.other W72 (Ne.symm ne_a_b1)
  replace A_b7 := A_b7.other W72 (Ne.symm ne_a_b7)
  replace A_b13 := A_b13.other W72 (Ne.symm ne_a_b13)
  replace A_b19 := A_b19.other W72 (Ne.symm ne_a_b19)
  replace A_b25 := A_b25.other W72 (Ne.symm ne_a_b25)
  replace A_b31 := A_b31.other W72 (Ne.symm ne_a_b31)
  replace A_b37 := A_b37.other W72 (Ne.symm ne_a_b37)
  replace A_b43 := A_b43.other W72 (Ne.symm ne_a_b43)
  replace A_b49 := A_b49.other W72 (Ne.symm ne_a_b49)
  replace A_b55 := A_b55.other W72 (Ne.symm ne_a_b55)
  replace A_b61 := A_b61.other W72 (Ne.symm ne_a_b61)
  replace A_b67 := A_b67.other W72 (Ne.symm ne_a_b67)
  replace F_11 := Fld.same W72 F_11
  refine aloadN P d1_113 rfl rfl (n := 114) rfl ?_
  refine iconst P d1_114 (x := (0 : Int32)) rfl (n := 115) rfl ?_
  refine putF P d1_115 (hw _ (List.mem_of_getElem? (i := 38) rfl)) F_un E_a (Or.inl (hw _ (List.mem_of_getElem? (i := 39) rfl))) (hw _ (List.mem_of_getElem? (i := 2) rfl)) (ty := .int) (by decide) rfl rfl lo_a (n := 118) rfl ?_
  intro T h73 P W74
  replace E_a := Exa.wr W74 E_a
  replace F_us := Fld.other W74 F_us (Or.inr (slot_ne (Or.inl (hw _ (List.mem_of_getElem? (i := 41) rfl))) (Or.inl (hw _ (List.mem_of_getElem? (i := 39) rfl))) (by decide) (t := .int) (t' := .int) (by decide) (by decide)))
  replace F_0 := Fld.other W74 F_0 (Or.inr (slot_ne (Or.inl (hw _ (List.mem_of_getElem? (i := 12) rfl))) (Or.inl (hw _ (List.mem_of_getElem? (i := 39) rfl))) (by decide) (t := (.array .long)) (t' := .int) (by decide) (by decide)))
  replace F_1 := Fld.other W74 F_1 (Or.inr (slot_ne (Or.inl (hw _ (List.mem_of_getElem? (i := 15) rfl))) (Or.inl (hw _ (List.mem_of_getElem? (i := 39) rfl))) (by decide) (t := (.array .int)) (t' := .int) (by decide) (by decide)))
  replace F_2 := Fld.other W74 F_2 (Or.inr (slot_ne (Or.inl (hw _ (List.mem_of_getElem? (i := 17) rfl))) (Or.inl (hw _ (List.mem_of_getElem? (i := 39) rfl))) (by decide) (t := (.array .long)) (t' := .int) (by decide) (by decide)))
  replace F_3 := Fld.other W74 F_3 (Or.inr (slot_ne (Or.inl (hw _ (List.mem_of_getElem? (i := 19) rfl))) (Or.inl (hw _ (List.mem_of_getElem? (i := 39) rfl))) (by decide) (t := (.array .int)) (t' := .int) (by decide) (by decide)))
  replace F_4 := Fld.other W74 F_4 (Or.inr (slot_ne (Or.inl (hw _ (List.mem_of_getElem? (i := 21) rfl))) (Or.inl (hw _ (List.mem_of_getElem? (i := 39) rfl))) (by decide) (t := (.array .long)) (t' := .int) (by decide) (by decide)))
  replace F_5 := Fld.other W74 F_5 (Or.inr (slot_ne (Or.inl (hw _ (List.mem_of_getElem? (i := 23) rfl))) (Or.inl (hw _ (List.mem_of_getElem? (i := 39) rfl))) (by decide) (t := (.array .int)) (t' := .int) (by decide) (by decide)))
  replace F_6 := Fld.other W74 F_6 (Or.inr (slot_ne (Or.inl (hw _ (List.mem_of_getElem? (i := 25) rfl))) (Or.inl (hw _ (List.mem_of_getElem? (i := 39) rfl))) (by decide) (t := (.array .long)) (t' := .int) (by decide) (by decide)))
  replace F_7 := Fld.other W74 F_7 (Or.inr (slot_ne (Or.inl (hw _ (List.mem_of_getElem? (i := 27) rfl))) (Or.inl (hw _ (List.mem_of_getElem? (i := 39) rfl))) (by decide) (t := (.array .int)) (t' := .int) (by decide) (by decide)))
  replace F_8 := Fld.other W74 F_8 (Or.inr (slot_ne (Or.inl (hw _ (List.mem_of_getElem? (i := 31) rfl))) (Or.inl (hw _ (List.mem_of_getElem? (i := 39) rfl))) (by decide) (t := (.array (.array .int))) (t' := .int) (by decide) (by decide)))
  replace F_9 := Fld.other W74 F_9 (Or.inr (slot_ne (Or.inl (hw _ (List.mem_of_getElem? (i := 33) rfl))) (Or.inl (hw _ (List.mem_of_getElem? (i := 39) rfl))) (by decide) (t := (.array .int)) (t' := .int) (by decide) (by decide)))
  replace F_10 := Fld.other W74 F_10 (Or.inr (slot_ne (Or.inl (hw _ (List.mem_of_getElem? (i := 35) rfl))) (Or.inl (hw _ (List.mem_of_getElem? (i := 39) rfl))) (by decide) (t := (.array .int)) (t' := .int) (by decide) (by decide)))
  replace F_11 := Fld.other W74 F_11 (Or.inr (slot_ne (Or.inl (hw _ (List.mem_of_getElem? (i := 37) rfl))) (Or.inl (hw _ (List.mem_of_getElem? (i := 39) rfl))) (by decide) (t := (.array .int)) (t' := .int) (by decide) (by decide)))
  replace A_b1 := A_b1.other W74 (Ne.symm ne_a_b1)
  replace A_b7 := A_b7.other W74 (Ne.symm ne_a_b7)
  replace A_b13 := A_b13.other W74 (Ne.symm ne_a_b13)
  replace A_b19 := A_b19.other W74 (Ne.symm ne_a_b19)
  replace A_b25 := A_b25.other W74 (Ne.symm ne_a_b25)
  replace A_b31 := A_b31.other W74 (Ne.symm ne_a_b31)
  replace A_b37 := A_b37.other W74 (Ne.symm ne_a_b37)
  replace A_b43 := A_b43.other W74 (Ne.symm ne_a_b43)
  replace A_b49 := A_b49.other W74 (Ne.symm ne_a_b49)
  replace A_b55 := A_b55.other W74 (Ne.symm ne_a_b55)
  replace A_b61 := A_b61.other W74 (Ne.symm ne_a_b61)
  replace A_b67 := A_b67.other W74 (Ne.symm ne_a_b67)
  replace F_un := Fld.same W74 F_un
  refine aloadN P d1_118 rfl rfl (n := 119) rfl ?_
  refine iconst P d1_119 (x := (1 : Int32)) rfl (n := 120) rfl ?_
  refine putF P d1_120 (hw _ (List.mem_of_getElem? (i := 40) rfl)) F_us E_a (Or.inl (hw _ (List.mem_of_getElem? (i := 41) rfl))) (hw _ (List.mem_of_getElem? (i := 2) rfl)) (ty := .int) (by decide) rfl rfl lo_a (n := 123) rfl ?_
  intro T h75 P W76
  replace E_a := Exa.wr W76 E_a
  replace F_un := Fld.other W76 F_un (Or.inr (slot_ne (Or.inl (hw _ (List.mem_of_getElem? (i := 39) rfl))) (Or.inl (hw _ (List.mem_of_getElem? (i := 41) rfl))) (by decide) (t := .int) (t' := .int) (by decide) (by decide)))
  replace F_0 := Fld.other W76 F_0 (Or.inr (slot_ne (Or.inl (hw _ (List.mem_of_getElem? (i := 12) rfl))) (Or.inl (hw _ (List.mem_of_getElem? (i := 41) rfl))) (by decide) (t := (.array .long)) (t' := .int) (by decide) (by decide)))
  replace F_1 := Fld.other W76 F_1 (Or.inr (slot_ne (Or.inl (hw _ (List.mem_of_getElem? (i := 15) rfl))) (Or.inl (hw _ (List.mem_of_getElem? (i := 41) rfl))) (by decide) (t := (.array .int)) (t' := .int) (by decide) (by decide)))
  replace F_2 := Fld.other W76 F_2 (Or.inr (slot_ne (Or.inl (hw _ (List.mem_of_getElem? (i := 17) rfl))) (Or.inl (hw _ (List.mem_of_getElem? (i := 41) rfl))) (by decide) (t := (.array .long)) (t' := .int) (by decide) (by decide)))
  replace F_3 := Fld.other W76 F_3 (Or.inr (slot_ne (Or.inl (hw _ (List.mem_of_getElem? (i := 19) rfl))) (Or.inl (hw _ (List.mem_of_getElem? (i := 41) rfl))) (by decide) (t := (.array .int)) (t' := .int) (by decide) (by decide)))
  replace F_4 := Fld.other W76 F_4 (Or.inr (slot_ne (Or.inl (hw _ (List.mem_of_getElem? (i := 21) rfl))) (Or.inl (hw _ (List.mem_of_getElem? (i := 41) rfl))) (by decide) (t := (.array .long)) (t' := .int) (by decide) (by decide)))
  replace F_5 := Fld.other W76 F_5 (Or.inr (slot_ne (Or.inl (hw _ (List.mem_of_getElem? (i := 23) rfl))) (Or.inl (hw _ (List.mem_of_getElem? (i := 41) rfl))) (by decide) (t := (.array .int)) (t' := .int) (by decide) (by decide)))
  replace F_6 := Fld.other W76 F_6 (Or.inr (slot_ne (Or.inl (hw _ (List.mem_of_getElem? (i := 25) rfl))) (Or.inl (hw _ (List.mem_of_getElem? (i := 41) rfl))) (by decide) (t := (.array .long)) (t' := .int) (by decide) (by decide)))
  replace F_7 := Fld.other W76 F_7 (Or.inr (slot_ne (Or.inl (hw _ (List.mem_of_getElem? (i := 27) rfl))) (Or.inl (hw _ (List.mem_of_getElem? (i := 41) rfl))) (by decide) (t := (.array .int)) (t' := .int) (by decide) (by decide)))
  replace F_8 := Fld.other W76 F_8 (Or.inr (slot_ne (Or.inl (hw _ (List.mem_of_getElem? (i := 31) rfl))) (Or.inl (hw _ (List.mem_of_getElem? (i := 41) rfl))) (by decide) (t := (.array (.array .int))) (t' := .int) (by decide) (by decide)))
  replace F_9 := Fld.other W76 F_9 (Or.inr (slot_ne (Or.inl (hw _ (List.mem_of_getElem? (i := 33) rfl))) (Or.inl (hw _ (List.mem_of_getElem? (i := 41) rfl))) (by decide) (t := (.array .int)) (t' := .int) (by decide) (by decide)))
  replace F_10 := Fld.other W76 F_10 (Or.inr (slot_ne (Or.inl (hw _ (List.mem_of_getElem? (i := 35) rfl))) (Or.inl (hw _ (List.mem_of_getElem? (i := 41) rfl))) (by decide) (t := (.array .int)) (t' := .int) (by decide) (by decide)))
  replace F_11 := Fld.other W76 F_11 (Or.inr (slot_ne (Or.inl (hw _ (List.mem_of_getElem? (i := 37) rfl))) (Or.inl (hw _ (List.mem_of_getElem? (i := 41) rfl))) (by decide) (t := (.array .int)) (t' := .int) (by decide) (by decide)))
  replace A_b1 := A_b1.other W76 (Ne.symm ne_a_b1)
  replace A_b7 := A_b7.other W76 (Ne.symm ne_a_b7)
  replace A_b13 := A_b13.other W76 (Ne.symm ne_a_b13)
  replace A_b19 := A_b19.other W76 (Ne.symm ne_a_b19)
  replace A_b25 := A_b25.other W76 (Ne.symm ne_a_b25)
  replace A_b31 := A_b31.other W76 (Ne.symm ne_a_b31)
  replace A_b37 := A_b37.other W76 (Ne.symm ne_a_b37)
  replace A_b43 := A_b43.other W76 (Ne.symm ne_a_b43)
  replace A_b49 := A_b49.other W76 (Ne.symm ne_a_b49)
  replace A_b55 := A_b55.other W76 (Ne.symm ne_a_b55)
  replace A_b61 := A_b61.other W76 (Ne.symm ne_a_b61)
  replace A_b67 := A_b67.other W76 (Ne.symm ne_a_b67)
  replace F_us := Fld.same W76 F_us
  refine retV P d1_123 (by decide) (by decide) ?_
  exact ⟨rfl, b1, b7, b13, b19, b25, b31, b37, b43, b49, b55, b61, b67, _, _, _, _, _, _, _, _, _, _, E_a, F_un, F_us, F_0, F_1, F_2, F_3, F_4, F_5, F_6, F_7, F_8, F_9, F_10, F_11, A_b1, A_b7, A_b13, A_b19, A_b25, A_b31, A_b37, A_b43, A_b49, A_b55, A_b61, A_b67, lo_a, lt_b1, lt_b7, lt_b13, lt_b19, lt_b25, lt_b31, lt_b37, lt_b43, lt_b49, lt_b55, lt_b61, lt_b67⟩
def own_tab (l : List Int32) : Nat → Int32 := fun k => l.getD k 0
theorem own_tab_set (l : List Int32) (i : Nat) (x : Int32) (h : i < l.length) : ovr (own_tab l) i x = own_tab (l.set i x) := by
  funext k
  unfold ovr own_tab
  by_cases q : k = i
  · subst q; simp [h]
  · simp only [if_neg q, List.getD_eq_getElem?_getD]
    rw [List.getElem?_set_ne (Ne.symm q)]
theorem own_tab0 : (fun _ => (0 : Int32)) = own_tab [0, 0, 0, 0, 0, 0] := by
  funext k; unfold own_tab
  by_cases q : k < 6
  · have hk : k = 0 ∨ k = 1 ∨ k = 2 ∨ k = 3 ∨ k = 4 ∨ k = 5 := by omega
    rcases hk with rfl | rfl | rfl | rfl | rfl | rfl <;> rfl
  · rw [List.getD_eq_getElem?_getD, List.getElem?_eq_none (by simpa using Nat.le_of_not_lt q)]; rfl
theorem own_OS_exa {Z : State} {n0 : Nat} {h : Heap} {a : Addr} {un us : Int32} {ge gl : Nat → Int32} (O : own_OS Z n0 h a un us ge gl) : Exa Z h a "com/example/sessionloom/sessionloom/OpenSessions" := by
  obtain ⟨y0, y1, y2, y3, y4, y5, y6, y7, y8, y9, y10, y11, g0, g1, g2, g3, g4, g5, g6, g7, g8, g9, E_a, F_un, F_us, F_0, F_1, F_2, F_3, F_4, F_5, F_6, F_7, F_8, F_9, F_10, F_11, A_0, A_1, A_2, A_3, A_4, A_5, A_6, A_7, A_8, A_9, A_10, A_11, lo_a, c0, c1, c2, c3, c4, c5, c6, c7, c8, c9, c10, c11⟩ := O
  exact E_a
theorem ef_0 (m : MethodId) (u : Int32) (w : Int32) : entryFrame m #[(.int u), (.int w)] maxLocals = mkF m 0 #[.val (.int u), .val (.int w), .unset, .unset, .unset, .unset, .unset, .unset, .unset, .unset, .unset, .unset, .unset, .unset, .unset, .unset] [] := by first | (simp [entryFrame, mkF, argsToLocals, Value.category, maxLocals]; done) | rfl
theorem pn_1 : plainName "com/example/sessionloom/sessionloom/OpenSessionsEndPinLaw" = true := by first | (simp [plainName, overriddenIn]; done) | decide +kernel
theorem pd_1 : parseMethodDescriptor "()V" = some ⟨[], none⟩ := by decide +kernel
theorem pd_2 : parseMethodDescriptor "(JIJII)I" = some ⟨[.long, .int, .long, .int, .int], some .int⟩ := by decide +kernel
theorem pd_3 : parseMethodDescriptor "()I" = some ⟨[], some .int⟩ := by decide +kernel
theorem pd_4 : parseMethodDescriptor "(I)I" = some ⟨[.int], some .int⟩ := by decide +kernel
set_option maxRecDepth 65536 in
set_option maxHeartbeats 40000000 in
theorem rm_law (l : Launch) (Z : State) (a0 : Array Value) (hw : ∀ d ∈ tables_1, d.before a0 Z = true) (u : Int32) (w : Int32)  (h0 : Heap) (n0 : Nat) (low : n0 ≤ h0.size)  :
    Meth l Z x code maxLocals ret room_1 #[(.int u), (.int w)] h0 n0 (fun v _ => v = some (.int 1)) := by
  refine Meth.of (plainFor_of_name pn_1) low ?_
  intro p e s m args below meth c T P
  refine Ends.cast (ef_0 m u w) ?_
  refine iloadN P at_0 rfl (n := 1) rfl ?_
  refine ldcI P at_1 (hw _ (List.mem_of_getElem? (i := 0) rfl)) (n := 3) rfl ?_
  refine iand P at_3 (n := 4) rfl ?_
  refine nameI (x := (u &&& (2147483647 : Int32))) (F := fun z1 => Jvm.Own.Ends p e below s room_1 n0 (fun v _ => v = some (.int 1)) T (mkF m 4 #[.val (.int u), .val (.int w), .unset, .unset, .unset, .unset, .unset, .unset, .unset, .unset, .unset, .unset, .unset, .unset, .unset, .unset] [(.int z1)])) ?_
  intro z1 hz1
  have tz1 : z1.toInt = u.toInt % 2147483648 := n_mask 31 hz1 rfl (by decide)
  refine iconst P at_4 (x := (3 : Int32)) rfl (n := 5) rfl ?_
  refine irem P at_5 (by decide) (n := 6) rfl ?_
  refine nameI (x := (z1 % (3 : Int32))) (F := fun z2 => Jvm.Own.Ends p e below s room_1 n0 (fun v _ => v = some (.int 1)) T (mkF m 6 #[.val (.int u), .val (.int w), .unset, .unset, .unset, .unset, .unset, .unset, .unset, .unset, .unset, .unset, .unset, .unset, .unset, .unset] [(.int z2)])) ?_
  intro z2 hz2
  have tz2 : z2.toInt = z1.toInt % (3 : Int) := n_irem hz2 rfl rfl (by omega)
  rcases (show z2.toInt = 0 ∨ z2.toInt = 1 ∨ z2.toInt = 2 by omega) with q6 | q6 | q6
  ·
    obtain rfl : z2 = (0 : Int32) := eqI q6
    refine istoreN P at_6 (l' := #[.val (.int u), .val (.int w), .val (.int (0 : Int32)), .unset, .unset, .unset, .unset, .unset, .unset, .unset, .unset, .unset, .unset, .unset, .unset, .unset]) rfl (n := 7) rfl ?_
    refine iloadN P at_7 rfl (n := 8) rfl ?_
    refine iconst P at_8 (x := (1 : Int32)) rfl (n := 9) rfl ?_
    refine iand P at_9 (n := 10) rfl ?_
    refine nameI (x := (w &&& (1 : Int32))) (F := fun z3 => Jvm.Own.Ends p e below s room_1 n0 (fun v _ => v = some (.int 1)) T (mkF m 10 #[.val (.int u), .val (.int w), .val (.int (0 : Int32)), .unset, .unset, .unset, .unset, .unset, .unset, .unset, .unset, .unset, .unset, .unset, .unset, .unset] [(.int z3)])) ?_
    intro z3 hz3
    have tz3 : z3.toInt = w.toInt % 2 := n_mask 1 hz3 rfl (by decide)
    refine if0_eq P at_10 (n' := 17) (n := 13) (by decide) rfl (fun hc10 => ?_) (fun hc10 => ?_)
    · -- pc 10 taken
      replace hc10 : z3.toInt = (0 : Int) := hc10
      refine iconst P at_17 (x := (0 : Int32)) rfl (n := 18) rfl ?_
      refine istoreN P at_18 (l' := #[.val (.int u), .val (.int w), .val (.int (0 : Int32)), .val (.int (0 : Int32)), .unset, .unset, .unset, .unset, .unset, .unset, .unset, .unset, .unset, .unset, .unset, .unset]) rfl (n := 19) rfl ?_
      refine iloadN P at_19 rfl (n := 20) rfl ?_
      refine iconst P at_20 (x := (1 : Int32)) rfl (n := 21) rfl ?_
      refine iushr P at_21 (n := 22) rfl ?_
      refine nameI (x := ((w.toUInt32 >>> ((1 : Int32) &&& 31).toUInt32).toInt32)) (F := fun z4 => Jvm.Own.Ends p e below s room_1 n0 (fun v _ => v = some (.int 1)) T (mkF m 22 #[.val (.int u), .val (.int w), .val (.int (0 : Int32)), .val (.int (0 : Int32)), .unset, .unset, .unset, .unset, .unset, .unset, .unset, .unset, .unset, .unset, .unset, .unset] [(.int z4)])) ?_
      intro z4 hz4
      have tz4 : z4.toInt = (w.toInt % 4294967296) / 2 := n_iushr 1 hz4 rfl (by decide)
      refine iconst P at_22 (x := (1 : Int32)) rfl (n := 23) rfl ?_
      refine iand P at_23 (n := 24) rfl ?_
      refine nameI (x := (z4 &&& (1 : Int32))) (F := fun z5 => Jvm.Own.Ends p e below s room_1 n0 (fun v _ => v = some (.int 1)) T (mkF m 24 #[.val (.int u), .val (.int w), .val (.int (0 : Int32)), .val (.int (0 : Int32)), .unset, .unset, .unset, .unset, .unset, .unset, .unset, .unset, .unset, .unset, .unset, .unset] [(.int z5)])) ?_
      intro z5 hz5
      have tz5 : z5.toInt = z4.toInt % 2 := n_mask 1 hz5 rfl (by decide)
      refine iconst P at_24 (x := (1 : Int32)) rfl (n := 25) rfl ?_
      refine iadd P at_25 (n := 26) rfl ?_
      refine nameI (x := (z5 + (1 : Int32))) (F := fun z6 => Jvm.Own.Ends p e below s room_1 n0 (fun v _ => v = some (.int 1)) T (mkF m 26 #[.val (.int u), .val (.int w), .val (.int (0 : Int32)), .val (.int (0 : Int32)), .unset, .unset, .unset, .unset, .unset, .unset, .unset, .unset, .unset, .unset, .unset, .unset] [(.int z6)])) ?_
      intro z6 hz6
      have tz6 : z6.toInt = z5.toInt + (1 : Int) := n_iadd hz6 rfl rfl (by omega)
      refine istore P at_26 (l' := #[.val (.int u), .val (.int w), .val (.int (0 : Int32)), .val (.int (0 : Int32)), .val (.int z6), .unset, .unset, .unset, .unset, .unset, .unset, .unset, .unset, .unset, .unset, .unset]) rfl (n := 28) rfl ?_
      refine iloadN P at_28 rfl (n := 29) rfl ?_
      refine iload P at_29 rfl (n := 31) rfl ?_
      refine iadd P at_31 (n := 32) rfl ?_
      refine iconst P at_32 (x := (3 : Int32)) rfl (n := 33) rfl ?_
      refine irem P at_33 (by decide) (n := 34) rfl ?_
      refine istore P at_34 (l' := #[.val (.int u), .val (.int w), .val (.int (0 : Int32)), .val (.int (0 : Int32)), .val (.int z6), .val (.int (((0 : Int32) + z6) % (3 : Int32))), .unset, .unset, .unset, .unset, .unset, .unset, .unset, .unset, .unset, .unset]) rfl (n := 36) rfl ?_
      refine iconst P at_36 (x := (3 : Int32)) rfl (n := 37) rfl ?_
      refine iloadN P at_37 rfl (n := 38) rfl ?_
      refine isub P at_38 (n := 39) rfl ?_
      rw [show ((3 : Int32) - (0 : Int32)) = (3 : Int32) from by decide]
      refine iload P at_39 rfl (n := 41) rfl ?_
      refine isub P at_41 (n := 42) rfl ?_
      refine istore P at_42 (l' := #[.val (.int u), .val (.int w), .val (.int (0 : Int32)), .val (.int (0 : Int32)), .val (.int z6), .val (.int (((0 : Int32) + z6) % (3 : Int32))), .val (.int ((3 : Int32) - (((0 : Int32) + z6) % (3 : Int32)))), .unset, .unset, .unset, .unset, .unset, .unset, .unset, .unset, .unset]) rfl (n := 44) rfl ?_
      refine iloadN P at_44 rfl (n := 45) rfl ?_
      refine iconst P at_45 (x := (1 : Int32)) rfl (n := 46) rfl ?_
      refine iadd P at_46 (n := 47) rfl ?_
      rw [show ((0 : Int32) + (1 : Int32)) = (1 : Int32) from by decide]
      refine istore P at_47 (l' := #[.val (.int u), .val (.int w), .val (.int (0 : Int32)), .val (.int (0 : Int32)), .val (.int z6), .val (.int (((0 : Int32) + z6) % (3 : Int32))), .val (.int ((3 : Int32) - (((0 : Int32) + z6) % (3 : Int32)))), .val (.int (1 : Int32)), .unset, .unset, .unset, .unset, .unset, .unset, .unset, .unset]) rfl (n := 49) rfl ?_
      refine iload P at_49 rfl (n := 51) rfl ?_
      refine iconst P at_51 (x := (1 : Int32)) rfl (n := 52) rfl ?_
      refine iadd P at_52 (n := 53) rfl ?_
      refine istore P at_53 (l' := #[.val (.int u), .val (.int w), .val (.int (0 : Int32)), .val (.int (0 : Int32)), .val (.int z6), .val (.int (((0 : Int32) + z6) % (3 : Int32))), .val (.int ((3 : Int32) - (((0 : Int32) + z6) % (3 : Int32)))), .val (.int (1 : Int32)), .val (.int ((((0 : Int32) + z6) % (3 : Int32)) + (1 : Int32))), .unset, .unset, .unset, .unset, .unset, .unset, .unset]) rfl (n := 55) rfl ?_
      refine iload P at_55 rfl (n := 57) rfl ?_
      refine iconst P at_57 (x := (1 : Int32)) rfl (n := 58) rfl ?_
      refine iadd P at_58 (n := 59) rfl ?_
      refine istore P at_59 (l' := #[.val (.int u), .val (.int w), .val (.int (0 : Int32)), .val (.int (0 : Int32)), .val (.int z6), .val (.int (((0 : Int32) + z6) % (3 : Int32))), .val (.int ((3 : Int32) - (((0 : Int32) + z6) % (3 : Int32)))), .val (.int (1 : Int32)), .val (.int ((((0 : Int32) + z6) % (3 : Int32)) + (1 : Int32))), .val (.int (((3 : Int32) - (((0 : Int32) + z6) % (3 : Int32))) + (1 : Int32))), .unset, .unset, .unset, .unset, .unset, .unset]) rfl (n := 61) rfl ?_
      refine iloadN P at_61 rfl (n := 62) rfl ?_
      refine if0_ne P at_62 (n' := 69) (n := 65) (by decide) rfl (fun hc62 => ?_) (fun hc62 => ?_)
      · -- pc 62 taken
        replace hc62 : ¬ (0 : Int) = (0 : Int) := hc62
        exact absurd hc62 (by decide)
      · -- pc 62 not taken
        replace hc62 : (0 : Int) = (0 : Int) := hc62
        refine iconst P at_65 (x := (2 : Int32)) rfl (n := 66) rfl ?_
        refine goto P at_66 (n := 70) (by decide) ?_
        refine istore P at_70 (l' := #[.val (.int u), .val (.int w), .val (.int (0 : Int32)), .val (.int (0 : Int32)), .val (.int z6), .val (.int (((0 : Int32) + z6) % (3 : Int32))), .val (.int ((3 : Int32) - (((0 : Int32) + z6) % (3 : Int32)))), .val (.int (1 : Int32)), .val (.int ((((0 : Int32) + z6) % (3 : Int32)) + (1 : Int32))), .val (.int (((3 : Int32) - (((0 : Int32) + z6) % (3 : Int32))) + (1 : Int32))), .val (.int (2 : Int32)), .unset, .unset, .unset, .unset, .unset]) rfl (n := 72) rfl ?_
        refine iloadN P at_72 rfl (n := 73) rfl ?_
        refine iconst P at_73 (x := (2 : Int32)) rfl (n := 74) rfl ?_
        refine icmp_ne P at_74 (n' := 81) (n := 77) (by decide) rfl (fun hc74 => ?_) (fun hc74 => ?_)
        · -- pc 74 taken
          replace hc74 : ¬ (0 : Int) = (2 : Int) := hc74
          refine iconst P at_81 (x := (3 : Int32)) rfl (n := 82) rfl ?_
          refine istore P at_82 (l' := #[.val (.int u), .val (.int w), .val (.int (0 : Int32)), .val (.int (0 : Int32)), .val (.int z6), .val (.int (((0 : Int32) + z6) % (3 : Int32))), .val (.int ((3 : Int32) - (((0 : Int32) + z6) % (3 : Int32)))), .val (.int (1 : Int32)), .val (.int ((((0 : Int32) + z6) % (3 : Int32)) + (1 : Int32))), .val (.int (((3 : Int32) - (((0 : Int32) + z6) % (3 : Int32))) + (1 : Int32))), .val (.int (2 : Int32)), .val (.int (3 : Int32)), .unset, .unset, .unset, .unset]) rfl (n := 84) rfl ?_
          refine newO P at_84 (hw _ (List.mem_of_getElem? (i := 1) rfl)) (hw _ (List.mem_of_getElem? (i := 2) rfl)) (hw _ (List.mem_of_getElem? (i := 3) rfl)) (by decide) (by decide) (n := 87) rfl ?_
          intro T h8 b7 P X9 g10 lo_b7 E_b7 D_b7
          have F_b7_ids := D_b7 (Or.inl (hw _ (List.mem_of_getElem? (i := 12) rfl))) (ty := (.array .long)) (by decide)
          have F_b7_ordinals := D_b7 (Or.inl (hw _ (List.mem_of_getElem? (i := 15) rfl))) (ty := (.array .int)) (by decide)
          have F_b7_firstSeconds := D_b7 (Or.inl (hw _ (List.mem_of_getElem? (i := 17) rfl))) (ty := (.array .long)) (by decide)
          have F_b7_firstNanos := D_b7 (Or.inl (hw _ (List.mem_of_getElem? (i := 19) rfl))) (ty := (.array .int)) (by decide)
          have F_b7_lastSeconds := D_b7 (Or.inl (hw _ (List.mem_of_getElem? (i := 21) rfl))) (ty := (.array .long)) (by decide)
          have F_b7_lastNanos := D_b7 (Or.inl (hw _ (List.mem_of_getElem? (i := 23) rfl))) (ty := (.array .int)) (by decide)
          have F_b7_records := D_b7 (Or.inl (hw _ (List.mem_of_getElem? (i := 25) rfl))) (ty := (.array .long)) (by decide)
          have F_b7_entities := D_b7 (Or.inl (hw _ (List.mem_of_getElem? (i := 27) rfl))) (ty := (.array .int)) (by decide)
          have F_b7_others := D_b7 (Or.inl (hw _ (List.mem_of_getElem? (i := 31) rfl))) (ty := (.array (.array .int))) (by decide)
          have F_b7_otherCounts := D_b7 (Or.inl (hw _ (List.mem_of_getElem? (i := 33) rfl))) (ty := (.array .int)) (by decide)
          have F_b7_earlier := D_b7 (Or.inl (hw _ (List.mem_of_getElem? (i := 35) rfl))) (ty := (.array .int)) (by decide)
          have F_b7_later := D_b7 (Or.inl (hw _ (List.mem_of_getElem? (i := 37) rfl))) (ty := (.array .int)) (by decide)
          have F_b7_unused := D_b7 (Or.inl (hw _ (List.mem_of_getElem? (i := 39) rfl))) (ty := .int) (by decide)
          have F_b7_used := D_b7 (Or.inl (hw _ (List.mem_of_getElem? (i := 41) rfl))) (ty := .int) (by decide)
          refine dup P at_87 rfl (n := 88) rfl ?_
          refine callN P at_88 (a := b7) (argsL := []) (rest := [(.ref b7)]) (c_new l Z a0 hw b7 h8 n0 P.low E_b7 F_b7_unused F_b7_used F_b7_ids F_b7_ordinals F_b7_firstSeconds F_b7_firstNanos F_b7_lastSeconds F_b7_lastNanos F_b7_records F_b7_entities F_b7_others F_b7_otherCounts F_b7_earlier F_b7_later lo_b7) rfl (hw _ (List.mem_of_getElem? (i := 4) rfl)) (hw _ (List.mem_of_getElem? (i := 5) rfl)) (hw _ (List.mem_of_getElem? (i := 3) rfl)) (hw _ (List.mem_of_getElem? (i := 6) rfl)) (by decide) pd_1 rfl rfl rfl ⟨by decide, Nat.le_of_ble_eq_true rfl, by decide, by decide⟩ (n := 91) rfl ?_
          rintro T h11 v P ⟨rfl, O12⟩
          show Jvm.Own.Ends p e below s room_1 n0 (fun v _ => v = some (.int 1)) T (mkF m 91 #[.val (.int u), .val (.int w), .val (.int (0 : Int32)), .val (.int (0 : Int32)), .val (.int z6), .val (.int (((0 : Int32) + z6) % (3 : Int32))), .val (.int ((3 : Int32) - (((0 : Int32) + z6) % (3 : Int32)))), .val (.int (1 : Int32)), .val (.int ((((0 : Int32) + z6) % (3 : Int32)) + (1 : Int32))), .val (.int (((3 : Int32) - (((0 : Int32) + z6) % (3 : Int32))) + (1 : Int32))), .val (.int (2 : Int32)), .val (.int (3 : Int32)), .unset, .unset, .unset, .unset] [(.ref b7)])
          rw [own_tab0] at O12
          replace O12 : own_OS Z n0 h11 b7 (0 : Int32) (1 : Int32) (own_tab [0, 0, 0, 0, 0, 0]) (own_tab [0, 0, 0, 0, 0, 0]) := O12
          refine astore P at_91 rfl (l' := #[.val (.int u), .val (.int w), .val (.int (0 : Int32)), .val (.int (0 : Int32)), .val (.int z6), .val (.int (((0 : Int32) + z6) % (3 : Int32))), .val (.int ((3 : Int32) - (((0 : Int32) + z6) % (3 : Int32)))), .val (.int (1 : Int32)), .val (.int ((((0 : Int32) + z6) % (3 : Int32)) + (1 : Int32))), .val (.int (((3 : Int32) - (((0 : Int32) + z6) % (3 : Int32))) + (1 : Int32))), .val (.int (2 : Int32)), .val (.int (3 : Int32)), .val (.ref b7), .unset, .unset, .unset]) rfl (n := 93) rfl ?_
          refine aload P at_93 rfl rfl (n := 95) rfl ?_
          refine ldc2J P at_95 (hw _ (List.mem_of_getElem? (i := 42) rfl)) (n := 98) rfl ?_
          refine iconst P at_98 (x := (1 : Int32)) rfl (n := 99) rfl ?_
          refine lconst P at_99 (x := (0 : Int64)) rfl (n := 100) rfl ?_
          refine iconst P at_100 (x := (0 : Int32)) rfl (n := 101) rfl ?_
          refine iconst P at_101 (x := (1 : Int32)) rfl (n := 102) rfl ?_
          refine callV P at_102 (a := b7) (argsL := [(.long (10 : Int64)), (.int (1 : Int32)), (.long (0 : Int64)), (.int (0 : Int32)), (.int (1 : Int32))]) (rest := []) (c_open l Z a0 hw b7 (10 : Int64) (1 : Int32) (0 : Int64) (0 : Int32) (1 : Int32) (0 : Int32) (1 : Int32) (own_tab [0, 0, 0, 0, 0, 0]) (own_tab [0, 0, 0, 0, 0, 0]) h11 n0 P.low O12 (by decide) (by decide) (by decide)) (own_OS_exa O12) (hw _ (List.mem_of_getElem? (i := 43) rfl)) (hw _ (List.mem_of_getElem? (i := 44) rfl)) (notFace_of_selects (args := #[]) (mvT P.hZ (hw _ (List.mem_of_getElem? (i := 46) rfl)))) (hw _ (List.mem_of_getElem? (i := 46) rfl)) (hw _ (List.mem_of_getElem? (i := 45) rfl)) (hw _ (List.mem_of_getElem? (i := 3) rfl)) (hw _ (List.mem_of_getElem? (i := 47) rfl)) (by decide) pd_2 rfl rfl rfl ⟨by decide, Nat.le_of_ble_eq_true rfl, by decide, by decide⟩ (n := 105) rfl ?_
          rintro T h13 v P hq
          obtain ⟨rfl, O14⟩ := hq.1 (by decide)
          show Jvm.Own.Ends p e below s room_1 n0 (fun v _ => v = some (.int 1)) T (mkF m 105 #[.val (.int u), .val (.int w), .val (.int (0 : Int32)), .val (.int (0 : Int32)), .val (.int z6), .val (.int (((0 : Int32) + z6) % (3 : Int32))), .val (.int ((3 : Int32) - (((0 : Int32) + z6) % (3 : Int32)))), .val (.int (1 : Int32)), .val (.int ((((0 : Int32) + z6) % (3 : Int32)) + (1 : Int32))), .val (.int (((3 : Int32) - (((0 : Int32) + z6) % (3 : Int32))) + (1 : Int32))), .val (.int (2 : Int32)), .val (.int (3 : Int32)), .val (.ref b7), .unset, .unset, .unset] [(.int (1 : Int32))])
          have t15 : (ovr (ovr (own_tab [0, 0, 0, 0, 0, 0]) (1 : Int32).toInt.toNat ((own_tab [0, 0, 0, 0, 0, 0]) 0)) 0 (1 : Int32)) = own_tab [1, 0, 0, 0, 0, 0] := by rw [own_tab_set [0, 0, 0, 0, 0, 0] (1 : Int32).toInt.toNat ((own_tab [0, 0, 0, 0, 0, 0]) 0) (by decide), own_tab_set ([0, 0, 0, 0, 0, 0].set (1 : Int32).toInt.toNat ((own_tab [0, 0, 0, 0, 0, 0]) 0)) 0 (1 : Int32) (by decide)]; rfl
          rw [t15] at O14
          have t16 : (ovr (ovr (own_tab [0, 0, 0, 0, 0, 0]) (1 : Int32).toInt.toNat 0) ((own_tab [0, 0, 0, 0, 0, 0]) 0).toInt.toNat (1 : Int32)) = own_tab [1, 0, 0, 0, 0, 0] := by rw [own_tab_set [0, 0, 0, 0, 0, 0] (1 : Int32).toInt.toNat 0 (by decide), own_tab_set ([0, 0, 0, 0, 0, 0].set (1 : Int32).toInt.toNat 0) ((own_tab [0, 0, 0, 0, 0, 0]) 0).toInt.toNat (1 : Int32) (by decide)]; rfl
          rw [t16] at O14
          replace O14 : own_OS Z n0 h13 b7 (0 : Int32) (2 : Int32) (own_tab [1, 0, 0, 0, 0, 0]) (own_tab [1, 0, 0, 0, 0, 0]) := O14
          refine istore P at_105 (l' := #[.val (.int u), .val (.int w), .val (.int (0 : Int32)), .val (.int (0 : Int32)), .val (.int z6), .val (.int (((0 : Int32) + z6) % (3 : Int32))), .val (.int ((3 : Int32) - (((0 : Int32) + z6) % (3 : Int32)))), .val (.int (1 : Int32)), .val (.int ((((0 : Int32) + z6) % (3 : Int32)) + (1 : Int32))), .val (.int (((3 : Int32) - (((0 : Int32) + z6) % (3 : Int32))) + (1 : Int32))), .val (.int (2 : Int32)), .val (.int (3 : Int32)), .val (.ref b7), .val (.int (1 : Int32)), .unset, .unset]) rfl (n := 107) rfl ?_
          refine aload P at_107 rfl rfl (n := 109) rfl ?_
          refine ldc2J P at_109 (hw _ (List.mem_of_getElem? (i := 52) rfl)) (n := 112) rfl ?_
          refine iconst P at_112 (x := (1 : Int32)) rfl (n := 113) rfl ?_
          refine lconst P at_113 (x := (1 : Int64)) rfl (n := 114) rfl ?_
          refine iconst P at_114 (x := (0 : Int32)) rfl (n := 115) rfl ?_
          refine iconst P at_115 (x := (2 : Int32)) rfl (n := 116) rfl ?_
          refine callV P at_116 (a := b7) (argsL := [(.long (20 : Int64)), (.int (1 : Int32)), (.long (1 : Int64)), (.int (0 : Int32)), (.int (2 : Int32))]) (rest := []) (c_open l Z a0 hw b7 (20 : Int64) (1 : Int32) (1 : Int64) (0 : Int32) (2 : Int32) (0 : Int32) (2 : Int32) (own_tab [1, 0, 0, 0, 0, 0]) (own_tab [1, 0, 0, 0, 0, 0]) h13 n0 P.low O14 (by decide) (by decide) (by decide)) (own_OS_exa O14) (hw _ (List.mem_of_getElem? (i := 43) rfl)) (hw _ (List.mem_of_getElem? (i := 44) rfl)) (notFace_of_selects (args := #[]) (mvT P.hZ (hw _ (List.mem_of_getElem? (i := 46) rfl)))) (hw _ (List.mem_of_getElem? (i := 46) rfl)) (hw _ (List.mem_of_getElem? (i := 45) rfl)) (hw _ (List.mem_of_getElem? (i := 3) rfl)) (hw _ (List.mem_of_getElem? (i := 47) rfl)) (by decide) pd_2 rfl rfl rfl ⟨by decide, Nat.le_of_ble_eq_true rfl, by decide, by decide⟩ (n := 119) rfl ?_
          rintro T h17 v P hq
          obtain ⟨rfl, O18⟩ := hq.1 (by decide)
          show Jvm.Own.Ends p e below s room_1 n0 (fun v _ => v = some (.int 1)) T (mkF m 119 #[.val (.int u), .val (.int w), .val (.int (0 : Int32)), .val (.int (0 : Int32)), .val (.int z6), .val (.int (((0 : Int32) + z6) % (3 : Int32))), .val (.int ((3 : Int32) - (((0 : Int32) + z6) % (3 : Int32)))), .val (.int (1 : Int32)), .val (.int ((((0 : Int32) + z6) % (3 : Int32)) + (1 : Int32))), .val (.int (((3 : Int32) - (((0 : Int32) + z6) % (3 : Int32))) + (1 : Int32))), .val (.int (2 : Int32)), .val (.int (3 : Int32)), .val (.ref b7), .val (.int (1 : Int32)), .unset, .unset] [(.int (2 : Int32))])
          have t19 : (ovr (ovr (own_tab [1, 0, 0, 0, 0, 0]) (2 : Int32).toInt.toNat ((own_tab [1, 0, 0, 0, 0, 0]) 0)) 0 (2 : Int32)) = own_tab [2, 0, 1, 0, 0, 0] := by rw [own_tab_set [1, 0, 0, 0, 0, 0] (2 : Int32).toInt.toNat ((own_tab [1, 0, 0, 0, 0, 0]) 0) (by decide), own_tab_set ([1, 0, 0, 0, 0, 0].set (2 : Int32).toInt.toNat ((own_tab [1, 0, 0, 0, 0, 0]) 0)) 0 (2 : Int32) (by decide)]; rfl
          rw [t19] at O18
          have t20 : (ovr (ovr (own_tab [1, 0, 0, 0, 0, 0]) (2 : Int32).toInt.toNat 0) ((own_tab [1, 0, 0, 0, 0, 0]) 0).toInt.toNat (2 : Int32)) = own_tab [1, 2, 0, 0, 0, 0] := by rw [own_tab_set [1, 0, 0, 0, 0, 0] (2 : Int32).toInt.toNat 0 (by decide), own_tab_set ([1, 0, 0, 0, 0, 0].set (2 : Int32).toInt.toNat 0) ((own_tab [1, 0, 0, 0, 0, 0]) 0).toInt.toNat (2 : Int32) (by decide)]; rfl
          rw [t20] at O18
          replace O18 : own_OS Z n0 h17 b7 (0 : Int32) (3 : Int32) (own_tab [2, 0, 1, 0, 0, 0]) (own_tab [1, 2, 0, 0, 0, 0]) := O18
          refine istore P at_119 (l' := #[.val (.int u), .val (.int w), .val (.int (0 : Int32)), .val (.int (0 : Int32)), .val (.int z6), .val (.int (((0 : Int32) + z6) % (3 : Int32))), .val (.int ((3 : Int32) - (((0 : Int32) + z6) % (3 : Int32)))), .val (.int (1 : Int32)), .val (.int ((((0 : Int32) + z6) % (3 : Int32)) + (1 : Int32))), .val (.int (((3 : Int32) - (((0 : Int32) + z6) % (3 : Int32))) + (1 : Int32))), .val (.int (2 : Int32)), .val (.int (3 : Int32)), .val (.ref b7), .val (.int (1 : Int32)), .val (.int (2 : Int32)), .unset]) rfl (n := 121) rfl ?_
          refine aload P at_121 rfl rfl (n := 123) rfl ?_
          refine ldc2J P at_123 (hw _ (List.mem_of_getElem? (i := 53) rfl)) (n := 126) rfl ?_
          refine iconst P at_126 (x := (1 : Int32)) rfl (n := 127) rfl ?_
          refine ldc2J P at_127 (hw _ (List.mem_of_getElem? (i := 54) rfl)) (n := 130) rfl ?_
          refine iconst P at_130 (x := (0 : Int32)) rfl (n := 131) rfl ?_
          refine iconst P at_131 (x := (3 : Int32)) rfl (n := 132) rfl ?_
          refine callV P at_132 (a := b7) (argsL := [(.long (30 : Int64)), (.int (1 : Int32)), (.long (2 : Int64)), (.int (0 : Int32)), (.int (3 : Int32))]) (rest := []) (c_open l Z a0 hw b7 (30 : Int64) (1 : Int32) (2 : Int64) (0 : Int32) (3 : Int32) (0 : Int32) (3 : Int32) (own_tab [2, 0, 1, 0, 0, 0]) (own_tab [1, 2, 0, 0, 0, 0]) h17 n0 P.low O18 (by decide) (by decide) (by decide)) (own_OS_exa O18) (hw _ (List.mem_of_getElem? (i := 43) rfl)) (hw _ (List.mem_of_getElem? (i := 44) rfl)) (notFace_of_selects (args := #[]) (mvT P.hZ (hw _ (List.mem_of_getElem? (i := 46) rfl)))) (hw _ (List.mem_of_getElem? (i := 46) rfl)) (hw _ (List.mem_of_getElem? (i := 45) rfl)) (hw _ (List.mem_of_getElem? (i := 3) rfl)) (hw _ (List.mem_of_getElem? (i := 47) rfl)) (by decide) pd_2 rfl rfl rfl ⟨by decide, Nat.le_of_ble_eq_true rfl, by decide, by decide⟩ (n := 135) rfl ?_
          rintro T h21 v P hq
          obtain ⟨rfl, O22⟩ := hq.1 (by decide)
          show Jvm.Own.Ends p e below s room_1 n0 (fun v _ => v = some (.int 1)) T (mkF m 135 #[.val (.int u), .val (.int w), .val (.int (0 : Int32)), .val (.int (0 : Int32)), .val (.int z6), .val (.int (((0 : Int32) + z6) % (3 : Int32))), .val (.int ((3 : Int32) - (((0 : Int32) + z6) % (3 : Int32)))), .val (.int (1 : Int32)), .val (.int ((((0 : Int32) + z6) % (3 : Int32)) + (1 : Int32))), .val (.int (((3 : Int32) - (((0 : Int32) + z6) % (3 : Int32))) + (1 : Int32))), .val (.int (2 : Int32)), .val (.int (3 : Int32)), .val (.ref b7), .val (.int (1 : Int32)), .val (.int (2 : Int32)), .unset] [(.int (3 : Int32))])
          have t23 : (ovr (ovr (own_tab [2, 0, 1, 0, 0, 0]) (3 : Int32).toInt.toNat ((own_tab [2, 0, 1, 0, 0, 0]) 0)) 0 (3 : Int32)) = own_tab [3, 0, 1, 2, 0, 0] := by rw [own_tab_set [2, 0, 1, 0, 0, 0] (3 : Int32).toInt.toNat ((own_tab [2, 0, 1, 0, 0, 0]) 0) (by decide), own_tab_set ([2, 0, 1, 0, 0, 0].set (3 : Int32).toInt.toNat ((own_tab [2, 0, 1, 0, 0, 0]) 0)) 0 (3 : Int32) (by decide)]; rfl
          rw [t23] at O22
          have t24 : (ovr (ovr (own_tab [1, 2, 0, 0, 0, 0]) (3 : Int32).toInt.toNat 0) ((own_tab [2, 0, 1, 0, 0, 0]) 0).toInt.toNat (3 : Int32)) = own_tab [1, 2, 3, 0, 0, 0] := by rw [own_tab_set [1, 2, 0, 0, 0, 0] (3 : Int32).toInt.toNat 0 (by decide), own_tab_set ([1, 2, 0, 0, 0, 0].set (3 : Int32).toInt.toNat 0) ((own_tab [2, 0, 1, 0, 0, 0]) 0).toInt.toNat (3 : Int32) (by decide)]; rfl
          rw [t24] at O22
          replace O22 : own_OS Z n0 h21 b7 (0 : Int32) (4 : Int32) (own_tab [3, 0, 1, 2, 0, 0]) (own_tab [1, 2, 3, 0, 0, 0]) := O22
          refine istore P at_135 (l' := #[.val (.int u), .val (.int w), .val (.int (0 : Int32)), .val (.int (0 : Int32)), .val (.int z6), .val (.int (((0 : Int32) + z6) % (3 : Int32))), .val (.int ((3 : Int32) - (((0 : Int32) + z6) % (3 : Int32)))), .val (.int (1 : Int32)), .val (.int ((((0 : Int32) + z6) % (3 : Int32)) + (1 : Int32))), .val (.int (((3 : Int32) - (((0 : Int32) + z6) % (3 : Int32))) + (1 : Int32))), .val (.int (2 : Int32)), .val (.int (3 : Int32)), .val (.ref b7), .val (.int (1 : Int32)), .val (.int (2 : Int32)), .val (.int (3 : Int32))]) rfl (n := 137) rfl ?_
          refine iload P at_137 rfl (n := 139) rfl ?_
          refine iconst P at_139 (x := (1 : Int32)) rfl (n := 140) rfl ?_
          refine icmp_ne P at_140 (n' := 155) (n := 143) (by decide) rfl (fun hc140 => ?_) (fun hc140 => ?_)
          · -- pc 140 taken
            replace hc140 : ¬ (1 : Int) = (1 : Int) := hc140
            exact absurd hc140 (by decide)
          · -- pc 140 not taken
            replace hc140 : (1 : Int) = (1 : Int) := hc140
            refine iload P at_143 rfl (n := 145) rfl ?_
            refine iconst P at_145 (x := (2 : Int32)) rfl (n := 146) rfl ?_
            refine icmp_ne P at_146 (n' := 155) (n := 149) (by decide) rfl (fun hc146 => ?_) (fun hc146 => ?_)
            · -- pc 146 taken
              replace hc146 : ¬ (2 : Int) = (2 : Int) := hc146
              exact absurd hc146 (by decide)
            · -- pc 146 not taken
              replace hc146 : (2 : Int) = (2 : Int) := hc146
              refine iload P at_149 rfl (n := 151) rfl ?_
              refine iconst P at_151 (x := (3 : Int32)) rfl (n := 152) rfl ?_
              refine icmp_eq P at_152 (n' := 157) (n := 155) (by decide) rfl (fun hc152 => ?_) (fun hc152 => ?_)
              · -- pc 152 taken
                replace hc152 : (3 : Int) = (3 : Int) := hc152
                refine aload P at_157 rfl rfl (n := 159) rfl ?_
                refine iload P at_159 rfl (n := 161) rfl ?_
                refine callV P at_161 (a := b7) (argsL := [(.int (1 : Int32))]) (rest := []) (c_end l Z a0 hw b7 (1 : Int32) (0 : Int32) (4 : Int32) (own_tab [3, 0, 1, 2, 0, 0]) (own_tab [1, 2, 3, 0, 0, 0]) h21 n0 P.low O22 (by decide) (by decide) (by decide) (by decide)) (own_OS_exa O22) (hw _ (List.mem_of_getElem? (i := 55) rfl)) (hw _ (List.mem_of_getElem? (i := 56) rfl)) (notFace_of_selects (args := #[]) (mvT P.hZ (hw _ (List.mem_of_getElem? (i := 58) rfl)))) (hw _ (List.mem_of_getElem? (i := 58) rfl)) (hw _ (List.mem_of_getElem? (i := 57) rfl)) (hw _ (List.mem_of_getElem? (i := 3) rfl)) (hw _ (List.mem_of_getElem? (i := 59) rfl)) (by decide) pd_0 rfl rfl rfl ⟨by decide, Nat.le_of_ble_eq_true rfl, by decide, by decide⟩ (n := 164) rfl ?_
                rintro T h25 v P ⟨rfl, O26⟩
                show Jvm.Own.Ends p e below s room_1 n0 (fun v _ => v = some (.int 1)) T (mkF m 164 #[.val (.int u), .val (.int w), .val (.int (0 : Int32)), .val (.int (0 : Int32)), .val (.int z6), .val (.int (((0 : Int32) + z6) % (3 : Int32))), .val (.int ((3 : Int32) - (((0 : Int32) + z6) % (3 : Int32)))), .val (.int (1 : Int32)), .val (.int ((((0 : Int32) + z6) % (3 : Int32)) + (1 : Int32))), .val (.int (((3 : Int32) - (((0 : Int32) + z6) % (3 : Int32))) + (1 : Int32))), .val (.int (2 : Int32)), .val (.int (3 : Int32)), .val (.ref b7), .val (.int (1 : Int32)), .val (.int (2 : Int32)), .val (.int (3 : Int32))] [])
                have t27 : (ovr (own_tab [1, 2, 3, 0, 0, 0]) ((own_tab [3, 0, 1, 2, 0, 0]) (1 : Int32).toInt.toNat).toInt.toNat ((own_tab [1, 2, 3, 0, 0, 0]) (1 : Int32).toInt.toNat)) = own_tab [2, 2, 3, 0, 0, 0] := by rw [own_tab_set [1, 2, 3, 0, 0, 0] ((own_tab [3, 0, 1, 2, 0, 0]) (1 : Int32).toInt.toNat).toInt.toNat ((own_tab [1, 2, 3, 0, 0, 0]) (1 : Int32).toInt.toNat) (by decide)]; rfl
                rw [t27] at O26
                have t28 : (ovr (own_tab [2, 2, 3, 0, 0, 0]) (1 : Int32).toInt.toNat (0 : Int32)) = own_tab [2, 0, 3, 0, 0, 0] := by rw [own_tab_set [2, 2, 3, 0, 0, 0] (1 : Int32).toInt.toNat (0 : Int32) (by decide)]; rfl
                rw [t28] at O26
                have t29 : (ovr (own_tab [3, 0, 1, 2, 0, 0]) ((own_tab [2, 2, 3, 0, 0, 0]) (1 : Int32).toInt.toNat).toInt.toNat ((own_tab [3, 0, 1, 2, 0, 0]) (1 : Int32).toInt.toNat)) = own_tab [3, 0, 0, 2, 0, 0] := by rw [own_tab_set [3, 0, 1, 2, 0, 0] ((own_tab [2, 2, 3, 0, 0, 0]) (1 : Int32).toInt.toNat).toInt.toNat ((own_tab [3, 0, 1, 2, 0, 0]) (1 : Int32).toInt.toNat) (by decide)]; rfl
                rw [t29] at O26
                replace O26 : own_OS Z n0 h25 b7 (1 : Int32) (4 : Int32) (own_tab [3, 0, 0, 2, 0, 0]) (own_tab [2, 0, 3, 0, 0, 0]) := O26
                refine iloadN P at_164 rfl (n := 165) rfl ?_
                refine if0_ne P at_165 (n' := 253) (n := 168) (by decide) rfl (fun hc165 => ?_) (fun hc165 => ?_)
                · -- pc 165 taken
                  replace hc165 : ¬ (0 : Int) = (0 : Int) := hc165
                  exact absurd hc165 (by decide)
                · -- pc 165 not taken
                  replace hc165 : (0 : Int) = (0 : Int) := hc165
                  refine aload P at_168 rfl rfl (n := 170) rfl ?_
                  refine callV P at_170 (a := b7) (argsL := []) (rest := []) (c_first l Z a0 hw b7 (1 : Int32) (4 : Int32) (own_tab [3, 0, 0, 2, 0, 0]) (own_tab [2, 0, 3, 0, 0, 0]) h25 n0 P.low O26) (own_OS_exa O26) (hw _ (List.mem_of_getElem? (i := 64) rfl)) (hw _ (List.mem_of_getElem? (i := 65) rfl)) (notFace_of_selects (args := #[]) (mvT P.hZ (hw _ (List.mem_of_getElem? (i := 67) rfl)))) (hw _ (List.mem_of_getElem? (i := 67) rfl)) (hw _ (List.mem_of_getElem? (i := 66) rfl)) (hw _ (List.mem_of_getElem? (i := 3) rfl)) (hw _ (List.mem_of_getElem? (i := 68) rfl)) (by decide) pd_3 rfl rfl rfl ⟨by decide, Nat.le_of_ble_eq_true rfl, by decide, by decide⟩ (n := 173) rfl (Ret.on ?_)
                  intro T P
                  rw [show (own_tab [2, 0, 3, 0, 0, 0]) 0 = (2 : Int32) from rfl]
                  refine iload P at_173 rfl (n := 175) rfl ?_
                  refine icmp_eq P at_175 (n' := 180) (n := 178) (by decide) rfl (fun hc175 => ?_) (fun hc175 => ?_)
                  · -- pc 175 taken
                    replace hc175 : (2 : Int) = (2 : Int) := hc175
                    refine aload P at_180 rfl rfl (n := 182) rfl ?_
                    refine iload P at_182 rfl (n := 184) rfl ?_
                    refine callV P at_184 (a := b7) (argsL := [(.int (2 : Int32))]) (rest := []) (c_after l Z a0 hw b7 (2 : Int32) (1 : Int32) (4 : Int32) (own_tab [3, 0, 0, 2, 0, 0]) (own_tab [2, 0, 3, 0, 0, 0]) h25 n0 P.low O26 (by decide)) (own_OS_exa O26) (hw _ (List.mem_of_getElem? (i := 69) rfl)) (hw _ (List.mem_of_getElem? (i := 70) rfl)) (notFace_of_selects (args := #[]) (mvT P.hZ (hw _ (List.mem_of_getElem? (i := 72) rfl)))) (hw _ (List.mem_of_getElem? (i := 72) rfl)) (hw _ (List.mem_of_getElem? (i := 71) rfl)) (hw _ (List.mem_of_getElem? (i := 3) rfl)) (hw _ (List.mem_of_getElem? (i := 73) rfl)) (by decide) pd_4 rfl rfl rfl ⟨by decide, Nat.le_of_ble_eq_true rfl, by decide, by decide⟩ (n := 187) rfl (Ret.on ?_)
                    intro T P
                    rw [show (own_tab [2, 0, 3, 0, 0, 0]) (2 : Int32).toInt.toNat = (3 : Int32) from rfl]
                    refine iload P at_187 rfl (n := 189) rfl ?_
                    refine icmp_eq P at_189 (n' := 194) (n := 192) (by decide) rfl (fun hc189 => ?_) (fun hc189 => ?_)
                    · -- pc 189 taken
                      replace hc189 : (3 : Int) = (3 : Int) := hc189
                      refine aload P at_194 rfl rfl (n := 196) rfl ?_
                      refine ldc2J P at_196 (hw _ (List.mem_of_getElem? (i := 74) rfl)) (n := 199) rfl ?_
                      refine iconst P at_199 (x := (1 : Int32)) rfl (n := 200) rfl ?_
                      refine ldc2J P at_200 (hw _ (List.mem_of_getElem? (i := 75) rfl)) (n := 203) rfl ?_
                      refine iconst P at_203 (x := (0 : Int32)) rfl (n := 204) rfl ?_
                      refine iconst P at_204 (x := (4 : Int32)) rfl (n := 205) rfl ?_
                      refine callV P at_205 (a := b7) (argsL := [(.long (40 : Int64)), (.int (1 : Int32)), (.long (3 : Int64)), (.int (0 : Int32)), (.int (4 : Int32))]) (rest := []) (c_open l Z a0 hw b7 (40 : Int64) (1 : Int32) (3 : Int64) (0 : Int32) (4 : Int32) (1 : Int32) (4 : Int32) (own_tab [3, 0, 0, 2, 0, 0]) (own_tab [2, 0, 3, 0, 0, 0]) h25 n0 P.low O26 (by decide) (by decide) (by decide)) (own_OS_exa O26) (hw _ (List.mem_of_getElem? (i := 43) rfl)) (hw _ (List.mem_of_getElem? (i := 44) rfl)) (notFace_of_selects (args := #[]) (mvT P.hZ (hw _ (List.mem_of_getElem? (i := 46) rfl)))) (hw _ (List.mem_of_getElem? (i := 46) rfl)) (hw _ (List.mem_of_getElem? (i := 45) rfl)) (hw _ (List.mem_of_getElem? (i := 3) rfl)) (hw _ (List.mem_of_getElem? (i := 47) rfl)) (by decide) pd_2 rfl rfl rfl ⟨by decide, Nat.le_of_ble_eq_true rfl, by decide, by decide⟩ (n := 208) rfl ?_
                      rintro T h30 v P hq
                      obtain ⟨rfl, O31⟩ := hq.2 (by decide)
                      show Jvm.Own.Ends p e below s room_1 n0 (fun v _ => v = some (.int 1)) T (mkF m 208 #[.val (.int u), .val (.int w), .val (.int (0 : Int32)), .val (.int (0 : Int32)), .val (.int z6), .val (.int (((0 : Int32) + z6) % (3 : Int32))), .val (.int ((3 : Int32) - (((0 : Int32) + z6) % (3 : Int32)))), .val (.int (1 : Int32)), .val (.int ((((0 : Int32) + z6) % (3 : Int32)) + (1 : Int32))), .val (.int (((3 : Int32) - (((0 : Int32) + z6) % (3 : Int32))) + (1 : Int32))), .val (.int (2 : Int32)), .val (.int (3 : Int32)), .val (.ref b7), .val (.int (1 : Int32)), .val (.int (2 : Int32)), .val (.int (3 : Int32))] [(.int (1 : Int32))])
                      have t32 : (ovr (ovr (own_tab [3, 0, 0, 2, 0, 0]) (1 : Int32).toInt.toNat ((own_tab [3, 0, 0, 2, 0, 0]) 0)) 0 (1 : Int32)) = own_tab [1, 3, 0, 2, 0, 0] := by rw [own_tab_set [3, 0, 0, 2, 0, 0] (1 : Int32).toInt.toNat ((own_tab [3, 0, 0, 2, 0, 0]) 0) (by decide), own_tab_set ([3, 0, 0, 2, 0, 0].set (1 : Int32).toInt.toNat ((own_tab [3, 0, 0, 2, 0, 0]) 0)) 0 (1 : Int32) (by decide)]; rfl
                      rw [t32] at O31
                      have t33 : (ovr (ovr (own_tab [2, 0, 3, 0, 0, 0]) (1 : Int32).toInt.toNat 0) ((own_tab [3, 0, 0, 2, 0, 0]) 0).toInt.toNat (1 : Int32)) = own_tab [2, 0, 3, 1, 0, 0] := by rw [own_tab_set [2, 0, 3, 0, 0, 0] (1 : Int32).toInt.toNat 0 (by decide), own_tab_set ([2, 0, 3, 0, 0, 0].set (1 : Int32).toInt.toNat 0) ((own_tab [3, 0, 0, 2, 0, 0]) 0).toInt.toNat (1 : Int32) (by decide)]; rfl
                      rw [t33] at O31
                      replace O31 : own_OS Z n0 h30 b7 (0 : Int32) (4 : Int32) (own_tab [1, 3, 0, 2, 0, 0]) (own_tab [2, 0, 3, 1, 0, 0]) := O31
                      refine iload P at_208 rfl (n := 210) rfl ?_
                      refine icmp_eq P at_210 (n' := 215) (n := 213) (by decide) rfl (fun hc210 => ?_) (fun hc210 => ?_)
                      · -- pc 210 taken
                        replace hc210 : (1 : Int) = (1 : Int) := hc210
                        refine aload P at_215 rfl rfl (n := 217) rfl ?_
                        refine iload P at_217 rfl (n := 219) rfl ?_
                        refine callV P at_219 (a := b7) (argsL := [(.int (3 : Int32))]) (rest := []) (c_after l Z a0 hw b7 (3 : Int32) (0 : Int32) (4 : Int32) (own_tab [1, 3, 0, 2, 0, 0]) (own_tab [2, 0, 3, 1, 0, 0]) h30 n0 P.low O31 (by decide)) (own_OS_exa O31) (hw _ (List.mem_of_getElem? (i := 69) rfl)) (hw _ (List.mem_of_getElem? (i := 70) rfl)) (notFace_of_selects (args := #[]) (mvT P.hZ (hw _ (List.mem_of_getElem? (i := 72) rfl)))) (hw _ (List.mem_of_getElem? (i := 72) rfl)) (hw _ (List.mem_of_getElem? (i := 71) rfl)) (hw _ (List.mem_of_getElem? (i := 3) rfl)) (hw _ (List.mem_of_getElem? (i := 73) rfl)) (by decide) pd_4 rfl rfl rfl ⟨by decide, Nat.le_of_ble_eq_true rfl, by decide, by decide⟩ (n := 222) rfl (Ret.on ?_)
                        intro T P
                        rw [show (own_tab [2, 0, 3, 1, 0, 0]) (3 : Int32).toInt.toNat = (1 : Int32) from rfl]
                        refine iload P at_222 rfl (n := 224) rfl ?_
                        refine icmp_eq P at_224 (n' := 229) (n := 227) (by decide) rfl (fun hc224 => ?_) (fun hc224 => ?_)
                        · -- pc 224 taken
                          replace hc224 : (1 : Int) = (1 : Int) := hc224
                          refine aload P at_229 rfl rfl (n := 231) rfl ?_
                          refine ldc2J P at_231 (hw _ (List.mem_of_getElem? (i := 76) rfl)) (n := 234) rfl ?_
                          refine iconst P at_234 (x := (1 : Int32)) rfl (n := 235) rfl ?_
                          refine ldc2J P at_235 (hw _ (List.mem_of_getElem? (i := 77) rfl)) (n := 238) rfl ?_
                          refine iconst P at_238 (x := (0 : Int32)) rfl (n := 239) rfl ?_
                          refine iconst P at_239 (x := (5 : Int32)) rfl (n := 240) rfl ?_
                          refine callV P at_240 (a := b7) (argsL := [(.long (50 : Int64)), (.int (1 : Int32)), (.long (4 : Int64)), (.int (0 : Int32)), (.int (5 : Int32))]) (rest := []) (c_open l Z a0 hw b7 (50 : Int64) (1 : Int32) (4 : Int64) (0 : Int32) (5 : Int32) (0 : Int32) (4 : Int32) (own_tab [1, 3, 0, 2, 0, 0]) (own_tab [2, 0, 3, 1, 0, 0]) h30 n0 P.low O31 (by decide) (by decide) (by decide)) (own_OS_exa O31) (hw _ (List.mem_of_getElem? (i := 43) rfl)) (hw _ (List.mem_of_getElem? (i := 44) rfl)) (notFace_of_selects (args := #[]) (mvT P.hZ (hw _ (List.mem_of_getElem? (i := 46) rfl)))) (hw _ (List.mem_of_getElem? (i := 46) rfl)) (hw _ (List.mem_of_getElem? (i := 45) rfl)) (hw _ (List.mem_of_getElem? (i := 3) rfl)) (hw _ (List.mem_of_getElem? (i := 47) rfl)) (by decide) pd_2 rfl rfl rfl ⟨by decide, Nat.le_of_ble_eq_true rfl, by decide, by decide⟩ (n := 243) rfl ?_
                          rintro T h34 v P hq
                          obtain ⟨rfl, O35⟩ := hq.1 (by decide)
                          show Jvm.Own.Ends p e below s room_1 n0 (fun v _ => v = some (.int 1)) T (mkF m 243 #[.val (.int u), .val (.int w), .val (.int (0 : Int32)), .val (.int (0 : Int32)), .val (.int z6), .val (.int (((0 : Int32) + z6) % (3 : Int32))), .val (.int ((3 : Int32) - (((0 : Int32) + z6) % (3 : Int32)))), .val (.int (1 : Int32)), .val (.int ((((0 : Int32) + z6) % (3 : Int32)) + (1 : Int32))), .val (.int (((3 : Int32) - (((0 : Int32) + z6) % (3 : Int32))) + (1 : Int32))), .val (.int (2 : Int32)), .val (.int (3 : Int32)), .val (.ref b7), .val (.int (1 : Int32)), .val (.int (2 : Int32)), .val (.int (3 : Int32))] [(.int (4 : Int32))])
                          have t36 : (ovr (ovr (own_tab [1, 3, 0, 2, 0, 0]) (4 : Int32).toInt.toNat ((own_tab [1, 3, 0, 2, 0, 0]) 0)) 0 (4 : Int32)) = own_tab [4, 3, 0, 2, 1, 0] := by rw [own_tab_set [1, 3, 0, 2, 0, 0] (4 : Int32).toInt.toNat ((own_tab [1, 3, 0, 2, 0, 0]) 0) (by decide), own_tab_set ([1, 3, 0, 2, 0, 0].set (4 : Int32).toInt.toNat ((own_tab [1, 3, 0, 2, 0, 0]) 0)) 0 (4 : Int32) (by decide)]; rfl
                          rw [t36] at O35
                          have t37 : (ovr (ovr (own_tab [2, 0, 3, 1, 0, 0]) (4 : Int32).toInt.toNat 0) ((own_tab [1, 3, 0, 2, 0, 0]) 0).toInt.toNat (4 : Int32)) = own_tab [2, 4, 3, 1, 0, 0] := by rw [own_tab_set [2, 0, 3, 1, 0, 0] (4 : Int32).toInt.toNat 0 (by decide), own_tab_set ([2, 0, 3, 1, 0, 0].set (4 : Int32).toInt.toNat 0) ((own_tab [1, 3, 0, 2, 0, 0]) 0).toInt.toNat (4 : Int32) (by decide)]; rfl
                          rw [t37] at O35
                          replace O35 : own_OS Z n0 h34 b7 (0 : Int32) (5 : Int32) (own_tab [4, 3, 0, 2, 1, 0]) (own_tab [2, 4, 3, 1, 0, 0]) := O35
                          refine iconst P at_243 (x := (4 : Int32)) rfl (n := 244) rfl ?_
                          refine icmp_ne P at_244 (n' := 251) (n := 247) (by decide) rfl (fun hc244 => ?_) (fun hc244 => ?_)
                          · -- pc 244 taken
                            replace hc244 : ¬ (4 : Int) = (4 : Int) := hc244
                            exact absurd hc244 (by decide)
                          · -- pc 244 not taken
                            replace hc244 : (4 : Int) = (4 : Int) := hc244
                            refine iconst P at_247 (x := (1 : Int32)) rfl (n := 248) rfl ?_
                            refine goto P at_248 (n := 252) (by decide) ?_
                            refine retZ P at_252 (by decide) (by decide) (by decide) ?_
                            exact rfl
                        · -- pc 224 not taken
                          replace hc224 : ¬ (1 : Int) = (1 : Int) := hc224
                          exact absurd hc224 (by decide)
                      · -- pc 210 not taken
                        replace hc210 : ¬ (1 : Int) = (1 : Int) := hc210
                        exact absurd hc210 (by decide)
                    · -- pc 189 not taken
                      replace hc189 : ¬ (3 : Int) = (3 : Int) := hc189
                      exact absurd hc189 (by decide)
                  · -- pc 175 not taken
                    replace hc175 : ¬ (2 : Int) = (2 : Int) := hc175
                    exact absurd hc175 (by decide)
              · -- pc 152 not taken
                replace hc152 : ¬ (3 : Int) = (3 : Int) := hc152
                exact absurd hc152 (by decide)
        · -- pc 74 not taken
          replace hc74 : (0 : Int) = (2 : Int) := hc74
          exact absurd hc74 (by decide)
    · -- pc 10 not taken
      replace hc10 : ¬ z3.toInt = (0 : Int) := hc10
      refine iconst P at_13 (x := (1 : Int32)) rfl (n := 14) rfl ?_
      refine goto P at_14 (n := 18) (by decide) ?_
      refine istoreN P at_18 (l' := #[.val (.int u), .val (.int w), .val (.int (0 : Int32)), .val (.int (1 : Int32)), .unset, .unset, .unset, .unset, .unset, .unset, .unset, .unset, .unset, .unset, .unset, .unset]) rfl (n := 19) rfl ?_
      refine iloadN P at_19 rfl (n := 20) rfl ?_
      refine iconst P at_20 (x := (1 : Int32)) rfl (n := 21) rfl ?_
      refine iushr P at_21 (n := 22) rfl ?_
      refine nameI (x := ((w.toUInt32 >>> ((1 : Int32) &&& 31).toUInt32).toInt32)) (F := fun z38 => Jvm.Own.Ends p e below s room_1 n0 (fun v _ => v = some (.int 1)) T (mkF m 22 #[.val (.int u), .val (.int w), .val (.int (0 : Int32)), .val (.int (1 : Int32)), .unset, .unset, .unset, .unset, .unset, .unset, .unset, .unset, .unset, .unset, .unset, .unset] [(.int z38)])) ?_
      intro z38 hz38
      have tz38 : z38.toInt = (w.toInt % 4294967296) / 2 := n_iushr 1 hz38 rfl (by decide)
      refine iconst P at_22 (x := (1 : Int32)) rfl (n := 23) rfl ?_
      refine iand P at_23 (n := 24) rfl ?_
      refine nameI (x := (z38 &&& (1 : Int32))) (F := fun z39 => Jvm.Own.Ends p e below s room_1 n0 (fun v _ => v = some (.int 1)) T (mkF m 24 #[.val (.int u), .val (.int w), .val (.int (0 : Int32)), .val (.int (1 : Int32)), .unset, .unset, .unset, .unset, .unset, .unset, .unset, .unset, .unset, .unset, .unset, .unset] [(.int z39)])) ?_
      intro z39 hz39
      have tz39 : z39.toInt = z38.toInt % 2 := n_mask 1 hz39 rfl (by decide)
      refine iconst P at_24 (x := (1 : Int32)) rfl (n := 25) rfl ?_
      refine iadd P at_25 (n := 26) rfl ?_
      refine nameI (x := (z39 + (1 : Int32))) (F := fun z40 => Jvm.Own.Ends p e below s room_1 n0 (fun v _ => v = some (.int 1)) T (mkF m 26 #[.val (.int u), .val (.int w), .val (.int (0 : Int32)), .val (.int (1 : Int32)), .unset, .unset, .unset, .unset, .unset, .unset, .unset, .unset, .unset, .unset, .unset, .unset] [(.int z40)])) ?_
      intro z40 hz40
      have tz40 : z40.toInt = z39.toInt + (1 : Int) := n_iadd hz40 rfl rfl (by omega)
      rcases (show z40.toInt = 1 ∨ z40.toInt = 2 by omega) with q26 | q26
      ·
        obtain rfl : z40 = (1 : Int32) := eqI q26
        refine istore P at_26 (l' := #[.val (.int u), .val (.int w), .val (.int (0 : Int32)), .val (.int (1 : Int32)), .val (.int (1 : Int32)), .unset, .unset, .unset, .unset, .unset, .unset, .unset, .unset, .unset, .unset, .unset]) rfl (n := 28) rfl ?_
        refine iloadN P at_28 rfl (n := 29) rfl ?_
        refine iload P at_29 rfl (n := 31) rfl ?_
        refine iadd P at_31 (n := 32) rfl ?_
        rw [show ((0 : Int32) + (1 : Int32)) = (1 : Int32) from by decide]
        refine iconst P at_32 (x := (3 : Int32)) rfl (n := 33) rfl ?_
        refine irem P at_33 (by decide) (n := 34) rfl ?_
        rw [show ((1 : Int32) % (3 : Int32)) = (1 : Int32) from by decide]
        refine istore P at_34 (l' := #[.val (.int u), .val (.int w), .val (.int (0 : Int32)), .val (.int (1 : Int32)), .val (.int (1 : Int32)), .val (.int (1 : Int32)), .unset, .unset, .unset, .unset, .unset, .unset, .unset, .unset, .unset, .unset]) rfl (n := 36) rfl ?_
        refine iconst P at_36 (x := (3 : Int32)) rfl (n := 37) rfl ?_
        refine iloadN P at_37 rfl (n := 38) rfl ?_
        refine isub P at_38 (n := 39) rfl ?_
        rw [show ((3 : Int32) - (0 : Int32)) = (3 : Int32) from by decide]
        refine iload P at_39 rfl (n := 41) rfl ?_
        refine isub P at_41 (n := 42) rfl ?_
        rw [show ((3 : Int32) - (1 : Int32)) = (2 : Int32) from by decide]
        refine istore P at_42 (l' := #[.val (.int u), .val (.int w), .val (.int (0 : Int32)), .val (.int (1 : Int32)), .val (.int (1 : Int32)), .val (.int (1 : Int32)), .val (.int (2 : Int32)), .unset, .unset, .unset, .unset, .unset, .unset, .unset, .unset, .unset]) rfl (n := 44) rfl ?_
        refine iloadN P at_44 rfl (n := 45) rfl ?_
        refine iconst P at_45 (x := (1 : Int32)) rfl (n := 46) rfl ?_
        refine iadd P at_46 (n := 47) rfl ?_
        rw [show ((0 : Int32) + (1 : Int32)) = (1 : Int32) from by decide]
        refine istore P at_47 (l' := #[.val (.int u), .val (.int w), .val (.int (0 : Int32)), .val (.int (1 : Int32)), .val (.int (1 : Int32)), .val (.int (1 : Int32)), .val (.int (2 : Int32)), .val (.int (1 : Int32)), .unset, .unset, .unset, .unset, .unset, .unset, .unset, .unset]) rfl (n := 49) rfl ?_
        refine iload P at_49 rfl (n := 51) rfl ?_
        refine iconst P at_51 (x := (1 : Int32)) rfl (n := 52) rfl ?_
        refine iadd P at_52 (n := 53) rfl ?_
        rw [show ((1 : Int32) + (1 : Int32)) = (2 : Int32) from by decide]
        refine istore P at_53 (l' := #[.val (.int u), .val (.int w), .val (.int (0 : Int32)), .val (.int (1 : Int32)), .val (.int (1 : Int32)), .val (.int (1 : Int32)), .val (.int (2 : Int32)), .val (.int (1 : Int32)), .val (.int (2 : Int32)), .unset, .unset, .unset, .unset, .unset, .unset, .unset]) rfl (n := 55) rfl ?_
        refine iload P at_55 rfl (n := 57) rfl ?_
        refine iconst P at_57 (x := (1 : Int32)) rfl (n := 58) rfl ?_
        refine iadd P at_58 (n := 59) rfl ?_
        rw [show ((2 : Int32) + (1 : Int32)) = (3 : Int32) from by decide]
        refine istore P at_59 (l' := #[.val (.int u), .val (.int w), .val (.int (0 : Int32)), .val (.int (1 : Int32)), .val (.int (1 : Int32)), .val (.int (1 : Int32)), .val (.int (2 : Int32)), .val (.int (1 : Int32)), .val (.int (2 : Int32)), .val (.int (3 : Int32)), .unset, .unset, .unset, .unset, .unset, .unset]) rfl (n := 61) rfl ?_
        refine iloadN P at_61 rfl (n := 62) rfl ?_
        refine if0_ne P at_62 (n' := 69) (n := 65) (by decide) rfl (fun hc62 => ?_) (fun hc62 => ?_)
        · -- pc 62 taken
          replace hc62 : ¬ (0 : Int) = (0 : Int) := hc62
          exact absurd hc62 (by decide)
        · -- pc 62 not taken
          replace hc62 : (0 : Int) = (0 : Int) := hc62
          refine iconst P at_65 (x := (2 : Int32)) rfl (n := 66) rfl ?_
          refine goto P at_66 (n := 70) (by decide) ?_
          refine istore P at_70 (l' := #[.val (.int u), .val (.int w), .val (.int (0 : Int32)), .val (.int (1 : Int32)), .val (.int (1 : Int32)), .val (.int (1 : Int32)), .val (.int (2 : Int32)), .val (.int (1 : Int32)), .val (.int (2 : Int32)), .val (.int (3 : Int32)), .val (.int (2 : Int32)), .unset, .unset, .unset, .unset, .unset]) rfl (n := 72) rfl ?_
          refine iloadN P at_72 rfl (n := 73) rfl ?_
          refine iconst P at_73 (x := (2 : Int32)) rfl (n := 74) rfl ?_
          refine icmp_ne P at_74 (n' := 81) (n := 77) (by decide) rfl (fun hc74 => ?_) (fun hc74 => ?_)
          · -- pc 74 taken
            replace hc74 : ¬ (0 : Int) = (2 : Int) := hc74
            refine iconst P at_81 (x := (3 : Int32)) rfl (n := 82) rfl ?_
            refine istore P at_82 (l' := #[.val (.int u), .val (.int w), .val (.int (0 : Int32)), .val (.int (1 : Int32)), .val (.int (1 : Int32)), .val (.int (1 : Int32)), .val (.int (2 : Int32)), .val (.int (1 : Int32)), .val (.int (2 : Int32)), .val (.int (3 : Int32)), .val (.int (2 : Int32)), .val (.int (3 : Int32)), .unset, .unset, .unset, .unset]) rfl (n := 84) rfl ?_
            refine newO P at_84 (hw _ (List.mem_of_getElem? (i := 1) rfl)) (hw _ (List.mem_of_getElem? (i := 2) rfl)) (hw _ (List.mem_of_getElem? (i := 3) rfl)) (by decide) (by decide) (n := 87) rfl ?_
            intro T h42 b41 P X43 g44 lo_b41 E_b41 D_b41
            have F_b41_ids := D_b41 (Or.inl (hw _ (List.mem_of_getElem? (i := 12) rfl))) (ty := (.array .long)) (by decide)
            have F_b41_ordinals := D_b41 (Or.inl (hw _ (List.mem_of_getElem? (i := 15) rfl))) (ty := (.array .int)) (by decide)
            have F_b41_firstSeconds := D_b41 (Or.inl (hw _ (List.mem_of_getElem? (i := 17) rfl))) (ty := (.array .long)) (by decide)
            have F_b41_firstNanos := D_b41 (Or.inl (hw _ (List.mem_of_getElem? (i := 19) rfl))) (ty := (.array .int)) (by decide)
            have F_b41_lastSeconds := D_b41 (Or.inl (hw _ (List.mem_of_getElem? (i := 21) rfl))) (ty := (.array .long)) (by decide)
            have F_b41_lastNanos := D_b41 (Or.inl (hw _ (List.mem_of_getElem? (i := 23) rfl))) (ty := (.array .int)) (by decide)
            have F_b41_records := D_b41 (Or.inl (hw _ (List.mem_of_getElem? (i := 25) rfl))) (ty := (.array .long)) (by decide)
            have F_b41_entities := D_b41 (Or.inl (hw _ (List.mem_of_getElem? (i := 27) rfl))) (ty := (.array .int)) (by decide)
            have F_b41_others := D_b41 (Or.inl (hw _ (List.mem_of_getElem? (i := 31) rfl))) (ty := (.array (.array .int))) (by decide)
            have F_b41_otherCounts := D_b41 (Or.inl (hw _ (List.mem_of_getElem? (i := 33) rfl))) (ty := (.array .int)) (by decide)
            have F_b41_earlier := D_b41 (Or.inl (hw _ (List.mem_of_getElem? (i := 35) rfl))) (ty := (.array .int)) (by decide)
            have F_b41_later := D_b41 (Or.inl (hw _ (List.mem_of_getElem? (i := 37) rfl))) (ty := (.array .int)) (by decide)
            have F_b41_unused := D_b41 (Or.inl (hw _ (List.mem_of_getElem? (i := 39) rfl))) (ty := .int) (by decide)
            have F_b41_used := D_b41 (Or.inl (hw _ (List.mem_of_getElem? (i := 41) rfl))) (ty := .int) (by decide)
            refine dup P at_87 rfl (n := 88) rfl ?_
            refine callN P at_88 (a := b41) (argsL := []) (rest := [(.ref b41)]) (c_new l Z a0 hw b41 h42 n0 P.low E_b41 F_b41_unused F_b41_used F_b41_ids F_b41_ordinals F_b41_firstSeconds F_b41_firstNanos F_b41_lastSeconds F_b41_lastNanos F_b41_records F_b41_entities F_b41_others F_b41_otherCounts F_b41_earlier F_b41_later lo_b41) rfl (hw _ (List.mem_of_getElem? (i := 4) rfl)) (hw _ (List.mem_of_getElem? (i := 5) rfl)) (hw _ (List.mem_of_getElem? (i := 3) rfl)) (hw _ (List.mem_of_getElem? (i := 6) rfl)) (by decide) pd_1 rfl rfl rfl ⟨by decide, Nat.le_of_ble_eq_true rfl, by decide, by decide⟩ (n := 91) rfl ?_
            rintro T h45 v P ⟨rfl, O46⟩
            show Jvm.Own.Ends p e below s room_1 n0 (fun v _ => v = some (.int 1)) T (mkF m 91 #[.val (.int u), .val (.int w), .val (.int (0 : Int32)), .val (.int (1 : Int32)), .val (.int (1 : Int32)), .val (.int (1 : Int32)), .val (.int (2 : Int32)), .val (.int (1 : Int32)), .val (.int (2 : Int32)), .val (.int (3 : Int32)), .val (.int (2 : Int32)), .val (.int (3 : Int32)), .unset, .unset, .unset, .unset] [(.ref b41)])
            rw [own_tab0] at O46
            replace O46 : own_OS Z n0 h45 b41 (0 : Int32) (1 : Int32) (own_tab [0, 0, 0, 0, 0, 0]) (own_tab [0, 0, 0, 0, 0, 0]) := O46
            refine astore P at_91 rfl (l' := #[.val (.int u), .val (.int w), .val (.int (0 : Int32)), .val (.int (1 : Int32)), .val (.int (1 : Int32)), .val (.int (1 : Int32)), .val (.int (2 : Int32)), .val (.int (1 : Int32)), .val (.int (2 : Int32)), .val (.int (3 : Int32)), .val (.int (2 : Int32)), .val (.int (3 : Int32)), .val (.ref b41), .unset, .unset, .unset]) rfl (n := 93) rfl ?_
            refine aload P at_93 rfl rfl (n := 95) rfl ?_
            refine ldc2J P at_95 (hw _ (List.mem_of_getElem? (i := 42) rfl)) (n := 98) rfl ?_
            refine iconst P at_98 (x := (1 : Int32)) rfl (n := 99) rfl ?_
            refine lconst P at_99 (x := (0 : Int64)) rfl (n := 100) rfl ?_
            refine iconst P at_100 (x := (0 : Int32)) rfl (n := 101) rfl ?_
            refine iconst P at_101 (x := (1 : Int32)) rfl (n := 102) rfl ?_
            refine callV P at_102 (a := b41) (argsL := [(.long (10 : Int64)), (.int (1 : Int32)), (.long (0 : Int64)), (.int (0 : Int32)), (.int (1 : Int32))]) (rest := []) (c_open l Z a0 hw b41 (10 : Int64) (1 : Int32) (0 : Int64) (0 : Int32) (1 : Int32) (0 : Int32) (1 : Int32) (own_tab [0, 0, 0, 0, 0, 0]) (own_tab [0, 0, 0, 0, 0, 0]) h45 n0 P.low O46 (by decide) (by decide) (by decide)) (own_OS_exa O46) (hw _ (List.mem_of_getElem? (i := 43) rfl)) (hw _ (List.mem_of_getElem? (i := 44) rfl)) (notFace_of_selects (args := #[]) (mvT P.hZ (hw _ (List.mem_of_getElem? (i := 46) rfl)))) (hw _ (List.mem_of_getElem? (i := 46) rfl)) (hw _ (List.mem_of_getElem? (i := 45) rfl)) (hw _ (List.mem_of_getElem? (i := 3) rfl)) (hw _ (List.mem_of_getElem? (i := 47) rfl)) (by decide) pd_2 rfl rfl rfl ⟨by decide, Nat.le_of_ble_eq_true rfl, by decide, by decide⟩ (n := 105) rfl ?_
            rintro T h47 v P hq
            obtain ⟨rfl, O48⟩ := hq.1 (by decide)
            show Jvm.Own.Ends p e below s room_1 n0 (fun v _ => v = some (.int 1)) T (mkF m 105 #[.val (.int u), .val (.int w), .val (.int (0 : Int32)), .val (.int (1 : Int32)), .val (.int (1 : Int32)), .val (.int (1 : Int32)), .val (.int (2 : Int32)), .val (.int (1 : Int32)), .val (.int (2 : Int32)), .val (.int (3 : Int32)), .val (.int (2 : Int32)), .val (.int (3 : Int32)), .val (.ref b41), .unset, .unset, .unset] [(.int (1 : Int32))])
            have t49 : (ovr (ovr (own_tab [0, 0, 0, 0, 0, 0]) (1 : Int32).toInt.toNat ((own_tab [0, 0, 0, 0, 0, 0]) 0)) 0 (1 : Int32)) = own_tab [1, 0, 0, 0, 0, 0] := by rw [own_tab_set [0, 0, 0, 0, 0, 0] (1 : Int32).toInt.toNat ((own_tab [0, 0, 0, 0, 0, 0]) 0) (by decide), own_tab_set ([0, 0, 0, 0, 0, 0].set (1 : Int32).toInt.toNat ((own_tab [0, 0, 0, 0, 0, 0]) 0)) 0 (1 : Int32) (by decide)]; rfl
            rw [t49] at O48
            have t50 : (ovr (ovr (own_tab [0, 0, 0, 0, 0, 0]) (1 : Int32).toInt.toNat 0) ((own_tab [0, 0, 0, 0, 0, 0]) 0).toInt.toNat (1 : Int32)) = own_tab [1, 0, 0, 0, 0, 0] := by rw [own_tab_set [0, 0, 0, 0, 0, 0] (1 : Int32).toInt.toNat 0 (by decide), own_tab_set ([0, 0, 0, 0, 0, 0].set (1 : Int32).toInt.toNat 0) ((own_tab [0, 0, 0, 0, 0, 0]) 0).toInt.toNat (1 : Int32) (by decide)]; rfl
            rw [t50] at O48
            replace O48 : own_OS Z n0 h47 b41 (0 : Int32) (2 : Int32) (own_tab [1, 0, 0, 0, 0, 0]) (own_tab [1, 0, 0, 0, 0, 0]) := O48
            refine istore P at_105 (l' := #[.val (.int u), .val (.int w), .val (.int (0 : Int32)), .val (.int (1 : Int32)), .val (.int (1 : Int32)), .val (.int (1 : Int32)), .val (.int (2 : Int32)), .val (.int (1 : Int32)), .val (.int (2 : Int32)), .val (.int (3 : Int32)), .val (.int (2 : Int32)), .val (.int (3 : Int32)), .val (.ref b41), .val (.int (1 : Int32)), .unset, .unset]) rfl (n := 107) rfl ?_
            refine aload P at_107 rfl rfl (n := 109) rfl ?_
            refine ldc2J P at_109 (hw _ (List.mem_of_getElem? (i := 52) rfl)) (n := 112) rfl ?_
            refine iconst P at_112 (x := (1 : Int32)) rfl (n := 113) rfl ?_
            refine lconst P at_113 (x := (1 : Int64)) rfl (n := 114) rfl ?_
            refine iconst P at_114 (x := (0 : Int32)) rfl (n := 115) rfl ?_
            refine iconst P at_115 (x := (2 : Int32)) rfl (n := 116) rfl ?_
            refine callV P at_116 (a := b41) (argsL := [(.long (20 : Int64)), (.int (1 : Int32)), (.long (1 : Int64)), (.int (0 : Int32)), (.int (2 : Int32))]) (rest := []) (c_open l Z a0 hw b41 (20 : Int64) (1 : Int32) (1 : Int64) (0 : Int32) (2 : Int32) (0 : Int32) (2 : Int32) (own_tab [1, 0, 0, 0, 0, 0]) (own_tab [1, 0, 0, 0, 0, 0]) h47 n0 P.low O48 (by decide) (by decide) (by decide)) (own_OS_exa O48) (hw _ (List.mem_of_getElem? (i := 43) rfl)) (hw _ (List.mem_of_getElem? (i := 44) rfl)) (notFace_of_selects (args := #[]) (mvT P.hZ (hw _ (List.mem_of_getElem? (i := 46) rfl)))) (hw _ (List.mem_of_getElem? (i := 46) rfl)) (hw _ (List.mem_of_getElem? (i := 45) rfl)) (hw _ (List.mem_of_getElem? (i := 3) rfl)) (hw _ (List.mem_of_getElem? (i := 47) rfl)) (by decide) pd_2 rfl rfl rfl ⟨by decide, Nat.le_of_ble_eq_true rfl, by decide, by decide⟩ (n := 119) rfl ?_
            rintro T h51 v P hq
            obtain ⟨rfl, O52⟩ := hq.1 (by decide)
            show Jvm.Own.Ends p e below s room_1 n0 (fun v _ => v = some (.int 1)) T (mkF m 119 #[.val (.int u), .val (.int w), .val (.int (0 : Int32)), .val (.int (1 : Int32)), .val (.int (1 : Int32)), .val (.int (1 : Int32)), .val (.int (2 : Int32)), .val (.int (1 : Int32)), .val (.int (2 : Int32)), .val (.int (3 : Int32)), .val (.int (2 : Int32)), .val (.int (3 : Int32)), .val (.ref b41), .val (.int (1 : Int32)), .unset, .unset] [(.int (2 : Int32))])
            have t53 : (ovr (ovr (own_tab [1, 0, 0, 0, 0, 0]) (2 : Int32).toInt.toNat ((own_tab [1, 0, 0, 0, 0, 0]) 0)) 0 (2 : Int32)) = own_tab [2, 0, 1, 0, 0, 0] := by rw [own_tab_set [1, 0, 0, 0, 0, 0] (2 : Int32).toInt.toNat ((own_tab [1, 0, 0, 0, 0, 0]) 0) (by decide), own_tab_set ([1, 0, 0, 0, 0, 0].set (2 : Int32).toInt.toNat ((own_tab [1, 0, 0, 0, 0, 0]) 0)) 0 (2 : Int32) (by decide)]; rfl
            rw [t53] at O52
            have t54 : (ovr (ovr (own_tab [1, 0, 0, 0, 0, 0]) (2 : Int32).toInt.toNat 0) ((own_tab [1, 0, 0, 0, 0, 0]) 0).toInt.toNat (2 : Int32)) = own_tab [1, 2, 0, 0, 0, 0] := by rw [own_tab_set [1, 0, 0, 0, 0, 0] (2 : Int32).toInt.toNat 0 (by decide), own_tab_set ([1, 0, 0, 0, 0, 0].set (2 : Int32).toInt.toNat 0) ((own_tab [1, 0, 0, 0, 0, 0]) 0).toInt.toNat (2 : Int32) (by decide)]; rfl
            rw [t54] at O52
            replace O52 : own_OS Z n0 h51 b41 (0 : Int32) (3 : Int32) (own_tab [2, 0, 1, 0, 0, 0]) (own_tab [1, 2, 0, 0, 0, 0]) := O52
            refine istore P at_119 (l' := #[.val (.int u), .val (.int w), .val (.int (0 : Int32)), .val (.int (1 : Int32)), .val (.int (1 : Int32)), .val (.int (1 : Int32)), .val (.int (2 : Int32)), .val (.int (1 : Int32)), .val (.int (2 : Int32)), .val (.int (3 : Int32)), .val (.int (2 : Int32)), .val (.int (3 : Int32)), .val (.ref b41), .val (.int (1 : Int32)), .val (.int (2 : Int32)), .unset]) rfl (n := 121) rfl ?_
            refine aload P at_121 rfl rfl (n := 123) rfl ?_
            refine ldc2J P at_123 (hw _ (List.mem_of_getElem? (i := 53) rfl)) (n := 126) rfl ?_
            refine iconst P at_126 (x := (1 : Int32)) rfl (n := 127) rfl ?_
            refine ldc2J P at_127 (hw _ (List.mem_of_getElem? (i := 54) rfl)) (n := 130) rfl ?_
            refine iconst P at_130 (x := (0 : Int32)) rfl (n := 131) rfl ?_
            refine iconst P at_131 (x := (3 : Int32)) rfl (n := 132) rfl ?_
            refine callV P at_132 (a := b41) (argsL := [(.long (30 : Int64)), (.int (1 : Int32)), (.long (2 : Int64)), (.int (0 : Int32)), (.int (3 : Int32))]) (rest := []) (c_open l Z a0 hw b41 (30 : Int64) (1 : Int32) (2 : Int64) (0 : Int32) (3 : Int32) (0 : Int32) (3 : Int32) (own_tab [2, 0, 1, 0, 0, 0]) (own_tab [1, 2, 0, 0, 0, 0]) h51 n0 P.low O52 (by decide) (by decide) (by decide)) (own_OS_exa O52) (hw _ (List.mem_of_getElem? (i := 43) rfl)) (hw _ (List.mem_of_getElem? (i := 44) rfl)) (notFace_of_selects (args := #[]) (mvT P.hZ (hw _ (List.mem_of_getElem? (i := 46) rfl)))) (hw _ (List.mem_of_getElem? (i := 46) rfl)) (hw _ (List.mem_of_getElem? (i := 45) rfl)) (hw _ (List.mem_of_getElem? (i := 3) rfl)) (hw _ (List.mem_of_getElem? (i := 47) rfl)) (by decide) pd_2 rfl rfl rfl ⟨by decide, Nat.le_of_ble_eq_true rfl, by decide, by decide⟩ (n := 135) rfl ?_
            rintro T h55 v P hq
            obtain ⟨rfl, O56⟩ := hq.1 (by decide)
            show Jvm.Own.Ends p e below s room_1 n0 (fun v _ => v = some (.int 1)) T (mkF m 135 #[.val (.int u), .val (.int w), .val (.int (0 : Int32)), .val (.int (1 : Int32)), .val (.int (1 : Int32)), .val (.int (1 : Int32)), .val (.int (2 : Int32)), .val (.int (1 : Int32)), .val (.int (2 : Int32)), .val (.int (3 : Int32)), .val (.int (2 : Int32)), .val (.int (3 : Int32)), .val (.ref b41), .val (.int (1 : Int32)), .val (.int (2 : Int32)), .unset] [(.int (3 : Int32))])
            have t57 : (ovr (ovr (own_tab [2, 0, 1, 0, 0, 0]) (3 : Int32).toInt.toNat ((own_tab [2, 0, 1, 0, 0, 0]) 0)) 0 (3 : Int32)) = own_tab [3, 0, 1, 2, 0, 0] := by rw [own_tab_set [2, 0, 1, 0, 0, 0] (3 : Int32).toInt.toNat ((own_tab [2, 0, 1, 0, 0, 0]) 0) (by decide), own_tab_set ([2, 0, 1, 0, 0, 0].set (3 : Int32).toInt.toNat ((own_tab [2, 0, 1, 0, 0, 0]) 0)) 0 (3 : Int32) (by decide)]; rfl
            rw [t57] at O56
            have t58 : (ovr (ovr (own_tab [1, 2, 0, 0, 0, 0]) (3 : Int32).toInt.toNat 0) ((own_tab [2, 0, 1, 0, 0, 0]) 0).toInt.toNat (3 : Int32)) = own_tab [1, 2, 3, 0, 0, 0] := by rw [own_tab_set [1, 2, 0, 0, 0, 0] (3 : Int32).toInt.toNat 0 (by decide), own_tab_set ([1, 2, 0, 0, 0, 0].set (3 : Int32).toInt.toNat 0) ((own_tab [2, 0, 1, 0, 0, 0]) 0).toInt.toNat (3 : Int32) (by decide)]; rfl
            rw [t58] at O56
            replace O56 : own_OS Z n0 h55 b41 (0 : Int32) (4 : Int32) (own_tab [3, 0, 1, 2, 0, 0]) (own_tab [1, 2, 3, 0, 0, 0]) := O56
            refine istore P at_135 (l' := #[.val (.int u), .val (.int w), .val (.int (0 : Int32)), .val (.int (1 : Int32)), .val (.int (1 : Int32)), .val (.int (1 : Int32)), .val (.int (2 : Int32)), .val (.int (1 : Int32)), .val (.int (2 : Int32)), .val (.int (3 : Int32)), .val (.int (2 : Int32)), .val (.int (3 : Int32)), .val (.ref b41), .val (.int (1 : Int32)), .val (.int (2 : Int32)), .val (.int (3 : Int32))]) rfl (n := 137) rfl ?_
            refine iload P at_137 rfl (n := 139) rfl ?_
            refine iconst P at_139 (x := (1 : Int32)) rfl (n := 140) rfl ?_
            refine icmp_ne P at_140 (n' := 155) (n := 143) (by decide) rfl (fun hc140 => ?_) (fun hc140 => ?_)
            · -- pc 140 taken
              replace hc140 : ¬ (1 : Int) = (1 : Int) := hc140
              exact absurd hc140 (by decide)
            · -- pc 140 not taken
              replace hc140 : (1 : Int) = (1 : Int) := hc140
              refine iload P at_143 rfl (n := 145) rfl ?_
              refine iconst P at_145 (x := (2 : Int32)) rfl (n := 146) rfl ?_
              refine icmp_ne P at_146 (n' := 155) (n := 149) (by decide) rfl (fun hc146 => ?_) (fun hc146 => ?_)
              · -- pc 146 taken
                replace hc146 : ¬ (2 : Int) = (2 : Int) := hc146
                exact absurd hc146 (by decide)
              · -- pc 146 not taken
                replace hc146 : (2 : Int) = (2 : Int) := hc146
                refine iload P at_149 rfl (n := 151) rfl ?_
                refine iconst P at_151 (x := (3 : Int32)) rfl (n := 152) rfl ?_
                refine icmp_eq P at_152 (n' := 157) (n := 155) (by decide) rfl (fun hc152 => ?_) (fun hc152 => ?_)
                · -- pc 152 taken
                  replace hc152 : (3 : Int) = (3 : Int) := hc152
                  refine aload P at_157 rfl rfl (n := 159) rfl ?_
                  refine iload P at_159 rfl (n := 161) rfl ?_
                  refine callV P at_161 (a := b41) (argsL := [(.int (1 : Int32))]) (rest := []) (c_end l Z a0 hw b41 (1 : Int32) (0 : Int32) (4 : Int32) (own_tab [3, 0, 1, 2, 0, 0]) (own_tab [1, 2, 3, 0, 0, 0]) h55 n0 P.low O56 (by decide) (by decide) (by decide) (by decide)) (own_OS_exa O56) (hw _ (List.mem_of_getElem? (i := 55) rfl)) (hw _ (List.mem_of_getElem? (i := 56) rfl)) (notFace_of_selects (args := #[]) (mvT P.hZ (hw _ (List.mem_of_getElem? (i := 58) rfl)))) (hw _ (List.mem_of_getElem? (i := 58) rfl)) (hw _ (List.mem_of_getElem? (i := 57) rfl)) (hw _ (List.mem_of_getElem? (i := 3) rfl)) (hw _ (List.mem_of_getElem? (i := 59) rfl)) (by decide) pd_0 rfl rfl rfl ⟨by decide, Nat.le_of_ble_eq_true rfl, by decide, by decide⟩ (n := 164) rfl ?_
                  rintro T h59 v P ⟨rfl, O60⟩
                  show Jvm.Own.Ends p e below s room_1 n0 (fun v _ => v = some (.int 1)) T (mkF m 164 #[.val (.int u), .val (.int w), .val (.int (0 : Int32)), .val (.int (1 : Int32)), .val (.int (1 : Int32)), .val (.int (1 : Int32)), .val (.int (2 : Int32)), .val (.int (1 : Int32)), .val (.int (2 : Int32)), .val (.int (3 : Int32)), .val (.int (2 : Int32)), .val (.int (3 : Int32)), .val (.ref b41), .val (.int (1 : Int32)), .val (.int (2 : Int32)), .val (.int (3 : Int32))] [])
                  have t61 : (ovr (own_tab [1, 2, 3, 0, 0, 0]) ((own_tab [3, 0, 1, 2, 0, 0]) (1 : Int32).toInt.toNat).toInt.toNat ((own_tab [1, 2, 3, 0, 0, 0]) (1 : Int32).toInt.toNat)) = own_tab [2, 2, 3, 0, 0, 0] := by rw [own_tab_set [1, 2, 3, 0, 0, 0] ((own_tab [3, 0, 1, 2, 0, 0]) (1 : Int32).toInt.toNat).toInt.toNat ((own_tab [1, 2, 3, 0, 0, 0]) (1 : Int32).toInt.toNat) (by decide)]; rfl
                  rw [t61] at O60
                  have t62 : (ovr (own_tab [2, 2, 3, 0, 0, 0]) (1 : Int32).toInt.toNat (0 : Int32)) = own_tab [2, 0, 3, 0, 0, 0] := by rw [own_tab_set [2, 2, 3, 0, 0, 0] (1 : Int32).toInt.toNat (0 : Int32) (by decide)]; rfl
                  rw [t62] at O60
                  have t63 : (ovr (own_tab [3, 0, 1, 2, 0, 0]) ((own_tab [2, 2, 3, 0, 0, 0]) (1 : Int32).toInt.toNat).toInt.toNat ((own_tab [3, 0, 1, 2, 0, 0]) (1 : Int32).toInt.toNat)) = own_tab [3, 0, 0, 2, 0, 0] := by rw [own_tab_set [3, 0, 1, 2, 0, 0] ((own_tab [2, 2, 3, 0, 0, 0]) (1 : Int32).toInt.toNat).toInt.toNat ((own_tab [3, 0, 1, 2, 0, 0]) (1 : Int32).toInt.toNat) (by decide)]; rfl
                  rw [t63] at O60
                  replace O60 : own_OS Z n0 h59 b41 (1 : Int32) (4 : Int32) (own_tab [3, 0, 0, 2, 0, 0]) (own_tab [2, 0, 3, 0, 0, 0]) := O60
                  refine iloadN P at_164 rfl (n := 165) rfl ?_
                  refine if0_ne P at_165 (n' := 253) (n := 168) (by decide) rfl (fun hc165 => ?_) (fun hc165 => ?_)
                  · -- pc 165 taken
                    replace hc165 : ¬ (1 : Int) = (0 : Int) := hc165
                    refine aload P at_253 rfl rfl (n := 255) rfl ?_
                    refine iload P at_255 rfl (n := 257) rfl ?_
                    refine callV P at_257 (a := b41) (argsL := [(.int (2 : Int32))]) (rest := []) (c_end l Z a0 hw b41 (2 : Int32) (1 : Int32) (4 : Int32) (own_tab [3, 0, 0, 2, 0, 0]) (own_tab [2, 0, 3, 0, 0, 0]) h59 n0 P.low O60 (by decide) (by decide) (by decide) (by decide)) (own_OS_exa O60) (hw _ (List.mem_of_getElem? (i := 55) rfl)) (hw _ (List.mem_of_getElem? (i := 56) rfl)) (notFace_of_selects (args := #[]) (mvT P.hZ (hw _ (List.mem_of_getElem? (i := 58) rfl)))) (hw _ (List.mem_of_getElem? (i := 58) rfl)) (hw _ (List.mem_of_getElem? (i := 57) rfl)) (hw _ (List.mem_of_getElem? (i := 3) rfl)) (hw _ (List.mem_of_getElem? (i := 59) rfl)) (by decide) pd_0 rfl rfl rfl ⟨by decide, Nat.le_of_ble_eq_true rfl, by decide, by decide⟩ (n := 260) rfl ?_
                    rintro T h64 v P ⟨rfl, O65⟩
                    show Jvm.Own.Ends p e below s room_1 n0 (fun v _ => v = some (.int 1)) T (mkF m 260 #[.val (.int u), .val (.int w), .val (.int (0 : Int32)), .val (.int (1 : Int32)), .val (.int (1 : Int32)), .val (.int (1 : Int32)), .val (.int (2 : Int32)), .val (.int (1 : Int32)), .val (.int (2 : Int32)), .val (.int (3 : Int32)), .val (.int (2 : Int32)), .val (.int (3 : Int32)), .val (.ref b41), .val (.int (1 : Int32)), .val (.int (2 : Int32)), .val (.int (3 : Int32))] [])
                    have t66 : (ovr (own_tab [2, 0, 3, 0, 0, 0]) ((own_tab [3, 0, 0, 2, 0, 0]) (2 : Int32).toInt.toNat).toInt.toNat ((own_tab [2, 0, 3, 0, 0, 0]) (2 : Int32).toInt.toNat)) = own_tab [3, 0, 3, 0, 0, 0] := by rw [own_tab_set [2, 0, 3, 0, 0, 0] ((own_tab [3, 0, 0, 2, 0, 0]) (2 : Int32).toInt.toNat).toInt.toNat ((own_tab [2, 0, 3, 0, 0, 0]) (2 : Int32).toInt.toNat) (by decide)]; rfl
                    rw [t66] at O65
                    have t67 : (ovr (own_tab [3, 0, 3, 0, 0, 0]) (2 : Int32).toInt.toNat (1 : Int32)) = own_tab [3, 0, 1, 0, 0, 0] := by rw [own_tab_set [3, 0, 3, 0, 0, 0] (2 : Int32).toInt.toNat (1 : Int32) (by decide)]; rfl
                    rw [t67] at O65
                    have t68 : (ovr (own_tab [3, 0, 0, 2, 0, 0]) ((own_tab [3, 0, 3, 0, 0, 0]) (2 : Int32).toInt.toNat).toInt.toNat ((own_tab [3, 0, 0, 2, 0, 0]) (2 : Int32).toInt.toNat)) = own_tab [3, 0, 0, 0, 0, 0] := by rw [own_tab_set [3, 0, 0, 2, 0, 0] ((own_tab [3, 0, 3, 0, 0, 0]) (2 : Int32).toInt.toNat).toInt.toNat ((own_tab [3, 0, 0, 2, 0, 0]) (2 : Int32).toInt.toNat) (by decide)]; rfl
                    rw [t68] at O65
                    replace O65 : own_OS Z n0 h64 b41 (2 : Int32) (4 : Int32) (own_tab [3, 0, 0, 0, 0, 0]) (own_tab [3, 0, 1, 0, 0, 0]) := O65
                    refine aload P at_260 rfl rfl (n := 262) rfl ?_
                    refine callV P at_262 (a := b41) (argsL := []) (rest := []) (c_first l Z a0 hw b41 (2 : Int32) (4 : Int32) (own_tab [3, 0, 0, 0, 0, 0]) (own_tab [3, 0, 1, 0, 0, 0]) h64 n0 P.low O65) (own_OS_exa O65) (hw _ (List.mem_of_getElem? (i := 64) rfl)) (hw _ (List.mem_of_getElem? (i := 65) rfl)) (notFace_of_selects (args := #[]) (mvT P.hZ (hw _ (List.mem_of_getElem? (i := 67) rfl)))) (hw _ (List.mem_of_getElem? (i := 67) rfl)) (hw _ (List.mem_of_getElem? (i := 66) rfl)) (hw _ (List.mem_of_getElem? (i := 3) rfl)) (hw _ (List.mem_of_getElem? (i := 68) rfl)) (by decide) pd_3 rfl rfl rfl ⟨by decide, Nat.le_of_ble_eq_true rfl, by decide, by decide⟩ (n := 265) rfl (Ret.on ?_)
                    intro T P
                    rw [show (own_tab [3, 0, 1, 0, 0, 0]) 0 = (3 : Int32) from rfl]
                    refine iload P at_265 rfl (n := 267) rfl ?_
                    refine icmp_eq P at_267 (n' := 272) (n := 270) (by decide) rfl (fun hc267 => ?_) (fun hc267 => ?_)
                    · -- pc 267 taken
                      replace hc267 : (3 : Int) = (3 : Int) := hc267
                      refine aload P at_272 rfl rfl (n := 274) rfl ?_
                      refine iload P at_274 rfl (n := 276) rfl ?_
                      refine callV P at_276 (a := b41) (argsL := [(.int (3 : Int32))]) (rest := []) (c_after l Z a0 hw b41 (3 : Int32) (2 : Int32) (4 : Int32) (own_tab [3, 0, 0, 0, 0, 0]) (own_tab [3, 0, 1, 0, 0, 0]) h64 n0 P.low O65 (by decide)) (own_OS_exa O65) (hw _ (List.mem_of_getElem? (i := 69) rfl)) (hw _ (List.mem_of_getElem? (i := 70) rfl)) (notFace_of_selects (args := #[]) (mvT P.hZ (hw _ (List.mem_of_getElem? (i := 72) rfl)))) (hw _ (List.mem_of_getElem? (i := 72) rfl)) (hw _ (List.mem_of_getElem? (i := 71) rfl)) (hw _ (List.mem_of_getElem? (i := 3) rfl)) (hw _ (List.mem_of_getElem? (i := 73) rfl)) (by decide) pd_4 rfl rfl rfl ⟨by decide, Nat.le_of_ble_eq_true rfl, by decide, by decide⟩ (n := 279) rfl (Ret.on ?_)
                      intro T P
                      rw [show (own_tab [3, 0, 1, 0, 0, 0]) (3 : Int32).toInt.toNat = (0 : Int32) from rfl]
                      refine if0_eq P at_279 (n' := 284) (n := 282) (by decide) rfl (fun hc279 => ?_) (fun hc279 => ?_)
                      · -- pc 279 taken
                        replace hc279 : (0 : Int) = (0 : Int) := hc279
                        refine aload P at_284 rfl rfl (n := 286) rfl ?_
                        refine ldc2J P at_286 (hw _ (List.mem_of_getElem? (i := 74) rfl)) (n := 289) rfl ?_
                        refine iconst P at_289 (x := (1 : Int32)) rfl (n := 290) rfl ?_
                        refine ldc2J P at_290 (hw _ (List.mem_of_getElem? (i := 75) rfl)) (n := 293) rfl ?_
                        refine iconst P at_293 (x := (0 : Int32)) rfl (n := 294) rfl ?_
                        refine iconst P at_294 (x := (4 : Int32)) rfl (n := 295) rfl ?_
                        refine callV P at_295 (a := b41) (argsL := [(.long (40 : Int64)), (.int (1 : Int32)), (.long (3 : Int64)), (.int (0 : Int32)), (.int (4 : Int32))]) (rest := []) (c_open l Z a0 hw b41 (40 : Int64) (1 : Int32) (3 : Int64) (0 : Int32) (4 : Int32) (2 : Int32) (4 : Int32) (own_tab [3, 0, 0, 0, 0, 0]) (own_tab [3, 0, 1, 0, 0, 0]) h64 n0 P.low O65 (by decide) (by decide) (by decide)) (own_OS_exa O65) (hw _ (List.mem_of_getElem? (i := 43) rfl)) (hw _ (List.mem_of_getElem? (i := 44) rfl)) (notFace_of_selects (args := #[]) (mvT P.hZ (hw _ (List.mem_of_getElem? (i := 46) rfl)))) (hw _ (List.mem_of_getElem? (i := 46) rfl)) (hw _ (List.mem_of_getElem? (i := 45) rfl)) (hw _ (List.mem_of_getElem? (i := 3) rfl)) (hw _ (List.mem_of_getElem? (i := 47) rfl)) (by decide) pd_2 rfl rfl rfl ⟨by decide, Nat.le_of_ble_eq_true rfl, by decide, by decide⟩ (n := 298) rfl ?_
                        rintro T h69 v P hq
                        obtain ⟨rfl, O70⟩ := hq.2 (by decide)
                        show Jvm.Own.Ends p e below s room_1 n0 (fun v _ => v = some (.int 1)) T (mkF m 298 #[.val (.int u), .val (.int w), .val (.int (0 : Int32)), .val (.int (1 : Int32)), .val (.int (1 : Int32)), .val (.int (1 : Int32)), .val (.int (2 : Int32)), .val (.int (1 : Int32)), .val (.int (2 : Int32)), .val (.int (3 : Int32)), .val (.int (2 : Int32)), .val (.int (3 : Int32)), .val (.ref b41), .val (.int (1 : Int32)), .val (.int (2 : Int32)), .val (.int (3 : Int32))] [(.int (2 : Int32))])
                        have t71 : (ovr (ovr (own_tab [3, 0, 0, 0, 0, 0]) (2 : Int32).toInt.toNat ((own_tab [3, 0, 0, 0, 0, 0]) 0)) 0 (2 : Int32)) = own_tab [2, 0, 3, 0, 0, 0] := by rw [own_tab_set [3, 0, 0, 0, 0, 0] (2 : Int32).toInt.toNat ((own_tab [3, 0, 0, 0, 0, 0]) 0) (by decide), own_tab_set ([3, 0, 0, 0, 0, 0].set (2 : Int32).toInt.toNat ((own_tab [3, 0, 0, 0, 0, 0]) 0)) 0 (2 : Int32) (by decide)]; rfl
                        rw [t71] at O70
                        have t72 : (ovr (ovr (own_tab [3, 0, 1, 0, 0, 0]) (2 : Int32).toInt.toNat 0) ((own_tab [3, 0, 0, 0, 0, 0]) 0).toInt.toNat (2 : Int32)) = own_tab [3, 0, 0, 2, 0, 0] := by rw [own_tab_set [3, 0, 1, 0, 0, 0] (2 : Int32).toInt.toNat 0 (by decide), own_tab_set ([3, 0, 1, 0, 0, 0].set (2 : Int32).toInt.toNat 0) ((own_tab [3, 0, 0, 0, 0, 0]) 0).toInt.toNat (2 : Int32) (by decide)]; rfl
                        rw [t72] at O70
                        replace O70 : own_OS Z n0 h69 b41 (1 : Int32) (4 : Int32) (own_tab [2, 0, 3, 0, 0, 0]) (own_tab [3, 0, 0, 2, 0, 0]) := O70
                        refine iload P at_298 rfl (n := 300) rfl ?_
                        refine icmp_eq P at_300 (n' := 305) (n := 303) (by decide) rfl (fun hc300 => ?_) (fun hc300 => ?_)
                        · -- pc 300 taken
                          replace hc300 : (2 : Int) = (2 : Int) := hc300
                          refine aload P at_305 rfl rfl (n := 307) rfl ?_
                          refine ldc2J P at_307 (hw _ (List.mem_of_getElem? (i := 76) rfl)) (n := 310) rfl ?_
                          refine iconst P at_310 (x := (1 : Int32)) rfl (n := 311) rfl ?_
                          refine ldc2J P at_311 (hw _ (List.mem_of_getElem? (i := 77) rfl)) (n := 314) rfl ?_
                          refine iconst P at_314 (x := (0 : Int32)) rfl (n := 315) rfl ?_
                          refine iconst P at_315 (x := (5 : Int32)) rfl (n := 316) rfl ?_
                          refine callV P at_316 (a := b41) (argsL := [(.long (50 : Int64)), (.int (1 : Int32)), (.long (4 : Int64)), (.int (0 : Int32)), (.int (5 : Int32))]) (rest := []) (c_open l Z a0 hw b41 (50 : Int64) (1 : Int32) (4 : Int64) (0 : Int32) (5 : Int32) (1 : Int32) (4 : Int32) (own_tab [2, 0, 3, 0, 0, 0]) (own_tab [3, 0, 0, 2, 0, 0]) h69 n0 P.low O70 (by decide) (by decide) (by decide)) (own_OS_exa O70) (hw _ (List.mem_of_getElem? (i := 43) rfl)) (hw _ (List.mem_of_getElem? (i := 44) rfl)) (notFace_of_selects (args := #[]) (mvT P.hZ (hw _ (List.mem_of_getElem? (i := 46) rfl)))) (hw _ (List.mem_of_getElem? (i := 46) rfl)) (hw _ (List.mem_of_getElem? (i := 45) rfl)) (hw _ (List.mem_of_getElem? (i := 3) rfl)) (hw _ (List.mem_of_getElem? (i := 47) rfl)) (by decide) pd_2 rfl rfl rfl ⟨by decide, Nat.le_of_ble_eq_true rfl, by decide, by decide⟩ (n := 319) rfl ?_
                          rintro T h73 v P hq
                          obtain ⟨rfl, O74⟩ := hq.2 (by decide)
                          show Jvm.Own.Ends p e below s room_1 n0 (fun v _ => v = some (.int 1)) T (mkF m 319 #[.val (.int u), .val (.int w), .val (.int (0 : Int32)), .val (.int (1 : Int32)), .val (.int (1 : Int32)), .val (.int (1 : Int32)), .val (.int (2 : Int32)), .val (.int (1 : Int32)), .val (.int (2 : Int32)), .val (.int (3 : Int32)), .val (.int (2 : Int32)), .val (.int (3 : Int32)), .val (.ref b41), .val (.int (1 : Int32)), .val (.int (2 : Int32)), .val (.int (3 : Int32))] [(.int (1 : Int32))])
                          have t75 : (ovr (ovr (own_tab [2, 0, 3, 0, 0, 0]) (1 : Int32).toInt.toNat ((own_tab [2, 0, 3, 0, 0, 0]) 0)) 0 (1 : Int32)) = own_tab [1, 2, 3, 0, 0, 0] := by rw [own_tab_set [2, 0, 3, 0, 0, 0] (1 : Int32).toInt.toNat ((own_tab [2, 0, 3, 0, 0, 0]) 0) (by decide), own_tab_set ([2, 0, 3, 0, 0, 0].set (1 : Int32).toInt.toNat ((own_tab [2, 0, 3, 0, 0, 0]) 0)) 0 (1 : Int32) (by decide)]; rfl
                          rw [t75] at O74
                          have t76 : (ovr (ovr (own_tab [3, 0, 0, 2, 0, 0]) (1 : Int32).toInt.toNat 0) ((own_tab [2, 0, 3, 0, 0, 0]) 0).toInt.toNat (1 : Int32)) = own_tab [3, 0, 1, 2, 0, 0] := by rw [own_tab_set [3, 0, 0, 2, 0, 0] (1 : Int32).toInt.toNat 0 (by decide), own_tab_set ([3, 0, 0, 2, 0, 0].set (1 : Int32).toInt.toNat 0) ((own_tab [2, 0, 3, 0, 0, 0]) 0).toInt.toNat (1 : Int32) (by decide)]; rfl
                          rw [t76] at O74
                          replace O74 : own_OS Z n0 h73 b41 (0 : Int32) (4 : Int32) (own_tab [1, 2, 3, 0, 0, 0]) (own_tab [3, 0, 1, 2, 0, 0]) := O74
                          refine iload P at_319 rfl (n := 321) rfl ?_
                          refine icmp_ne P at_321 (n' := 328) (n := 324) (by decide) rfl (fun hc321 => ?_) (fun hc321 => ?_)
                          · -- pc 321 taken
                            replace hc321 : ¬ (1 : Int) = (1 : Int) := hc321
                            exact absurd hc321 (by decide)
                          · -- pc 321 not taken
                            replace hc321 : (1 : Int) = (1 : Int) := hc321
                            refine iconst P at_324 (x := (1 : Int32)) rfl (n := 325) rfl ?_
                            refine goto P at_325 (n := 329) (by decide) ?_
                            refine retZ P at_329 (by decide) (by decide) (by decide) ?_
                            exact rfl
                        · -- pc 300 not taken
                          replace hc300 : ¬ (2 : Int) = (2 : Int) := hc300
                          exact absurd hc300 (by decide)
                      · -- pc 279 not taken
                        replace hc279 : ¬ (0 : Int) = (0 : Int) := hc279
                        exact absurd hc279 (by decide)
                    · -- pc 267 not taken
                      replace hc267 : ¬ (3 : Int) = (3 : Int) := hc267
                      exact absurd hc267 (by decide)
                  · -- pc 165 not taken
                    replace hc165 : (1 : Int) = (0 : Int) := hc165
                    exact absurd hc165 (by decide)
                · -- pc 152 not taken
                  replace hc152 : ¬ (3 : Int) = (3 : Int) := hc152
                  exact absurd hc152 (by decide)
          · -- pc 74 not taken
            replace hc74 : (0 : Int) = (2 : Int) := hc74
            exact absurd hc74 (by decide)
      ·
        obtain rfl : z40 = (2 : Int32) := eqI q26
        refine istore P at_26 (l' := #[.val (.int u), .val (.int w), .val (.int (0 : Int32)), .val (.int (1 : Int32)), .val (.int (2 : Int32)), .unset, .unset, .unset, .unset, .unset, .unset, .unset, .unset, .unset, .unset, .unset]) rfl (n := 28) rfl ?_
        refine iloadN P at_28 rfl (n := 29) rfl ?_
        refine iload P at_29 rfl (n := 31) rfl ?_
        refine iadd P at_31 (n := 32) rfl ?_
        rw [show ((0 : Int32) + (2 : Int32)) = (2 : Int32) from by decide]
        refine iconst P at_32 (x := (3 : Int32)) rfl (n := 33) rfl ?_
        refine irem P at_33 (by decide) (n := 34) rfl ?_
        rw [show ((2 : Int32) % (3 : Int32)) = (2 : Int32) from by decide]
        refine istore P at_34 (l' := #[.val (.int u), .val (.int w), .val (.int (0 : Int32)), .val (.int (1 : Int32)), .val (.int (2 : Int32)), .val (.int (2 : Int32)), .unset, .unset, .unset, .unset, .unset, .unset, .unset, .unset, .unset, .unset]) rfl (n := 36) rfl ?_
        refine iconst P at_36 (x := (3 : Int32)) rfl (n := 37) rfl ?_
        refine iloadN P at_37 rfl (n := 38) rfl ?_
        refine isub P at_38 (n := 39) rfl ?_
        rw [show ((3 : Int32) - (0 : Int32)) = (3 : Int32) from by decide]
        refine iload P at_39 rfl (n := 41) rfl ?_
        refine isub P at_41 (n := 42) rfl ?_
        rw [show ((3 : Int32) - (2 : Int32)) = (1 : Int32) from by decide]
        refine istore P at_42 (l' := #[.val (.int u), .val (.int w), .val (.int (0 : Int32)), .val (.int (1 : Int32)), .val (.int (2 : Int32)), .val (.int (2 : Int32)), .val (.int (1 : Int32)), .unset, .unset, .unset, .unset, .unset, .unset, .unset, .unset, .unset]) rfl (n := 44) rfl ?_
        refine iloadN P at_44 rfl (n := 45) rfl ?_
        refine iconst P at_45 (x := (1 : Int32)) rfl (n := 46) rfl ?_
        refine iadd P at_46 (n := 47) rfl ?_
        rw [show ((0 : Int32) + (1 : Int32)) = (1 : Int32) from by decide]
        refine istore P at_47 (l' := #[.val (.int u), .val (.int w), .val (.int (0 : Int32)), .val (.int (1 : Int32)), .val (.int (2 : Int32)), .val (.int (2 : Int32)), .val (.int (1 : Int32)), .val (.int (1 : Int32)), .unset, .unset, .unset, .unset, .unset, .unset, .unset, .unset]) rfl (n := 49) rfl ?_
        refine iload P at_49 rfl (n := 51) rfl ?_
        refine iconst P at_51 (x := (1 : Int32)) rfl (n := 52) rfl ?_
        refine iadd P at_52 (n := 53) rfl ?_
        rw [show ((2 : Int32) + (1 : Int32)) = (3 : Int32) from by decide]
        refine istore P at_53 (l' := #[.val (.int u), .val (.int w), .val (.int (0 : Int32)), .val (.int (1 : Int32)), .val (.int (2 : Int32)), .val (.int (2 : Int32)), .val (.int (1 : Int32)), .val (.int (1 : Int32)), .val (.int (3 : Int32)), .unset, .unset, .unset, .unset, .unset, .unset, .unset]) rfl (n := 55) rfl ?_
        refine iload P at_55 rfl (n := 57) rfl ?_
        refine iconst P at_57 (x := (1 : Int32)) rfl (n := 58) rfl ?_
        refine iadd P at_58 (n := 59) rfl ?_
        rw [show ((1 : Int32) + (1 : Int32)) = (2 : Int32) from by decide]
        refine istore P at_59 (l' := #[.val (.int u), .val (.int w), .val (.int (0 : Int32)), .val (.int (1 : Int32)), .val (.int (2 : Int32)), .val (.int (2 : Int32)), .val (.int (1 : Int32)), .val (.int (1 : Int32)), .val (.int (3 : Int32)), .val (.int (2 : Int32)), .unset, .unset, .unset, .unset, .unset, .unset]) rfl (n := 61) rfl ?_
        refine iloadN P at_61 rfl (n := 62) rfl ?_
        refine if0_ne P at_62 (n' := 69) (n := 65) (by decide) rfl (fun hc62 => ?_) (fun hc62 => ?_)
        · -- pc 62 taken
          replace hc62 : ¬ (0 : Int) = (0 : Int) := hc62
          exact absurd hc62 (by decide)
        · -- pc 62 not taken
          replace hc62 : (0 : Int) = (0 : Int) := hc62
          refine iconst P at_65 (x := (2 : Int32)) rfl (n := 66) rfl ?_
          refine goto P at_66 (n := 70) (by decide) ?_
          refine istore P at_70 (l' := #[.val (.int u), .val (.int w), .val (.int (0 : Int32)), .val (.int (1 : Int32)), .val (.int (2 : Int32)), .val (.int (2 : Int32)), .val (.int (1 : Int32)), .val (.int (1 : Int32)), .val (.int (3 : Int32)), .val (.int (2 : Int32)), .val (.int (2 : Int32)), .unset, .unset, .unset, .unset, .unset]) rfl (n := 72) rfl ?_
          refine iloadN P at_72 rfl (n := 73) rfl ?_
          refine iconst P at_73 (x := (2 : Int32)) rfl (n := 74) rfl ?_
          refine icmp_ne P at_74 (n' := 81) (n := 77) (by decide) rfl (fun hc74 => ?_) (fun hc74 => ?_)
          · -- pc 74 taken
            replace hc74 : ¬ (0 : Int) = (2 : Int) := hc74
            refine iconst P at_81 (x := (3 : Int32)) rfl (n := 82) rfl ?_
            refine istore P at_82 (l' := #[.val (.int u), .val (.int w), .val (.int (0 : Int32)), .val (.int (1 : Int32)), .val (.int (2 : Int32)), .val (.int (2 : Int32)), .val (.int (1 : Int32)), .val (.int (1 : Int32)), .val (.int (3 : Int32)), .val (.int (2 : Int32)), .val (.int (2 : Int32)), .val (.int (3 : Int32)), .unset, .unset, .unset, .unset]) rfl (n := 84) rfl ?_
            refine newO P at_84 (hw _ (List.mem_of_getElem? (i := 1) rfl)) (hw _ (List.mem_of_getElem? (i := 2) rfl)) (hw _ (List.mem_of_getElem? (i := 3) rfl)) (by decide) (by decide) (n := 87) rfl ?_
            intro T h78 b77 P X79 g80 lo_b77 E_b77 D_b77
            have F_b77_ids := D_b77 (Or.inl (hw _ (List.mem_of_getElem? (i := 12) rfl))) (ty := (.array .long)) (by decide)
            have F_b77_ordinals := D_b77 (Or.inl (hw _ (List.mem_of_getElem? (i := 15) rfl))) (ty := (.array .int)) (by decide)
            have F_b77_firstSeconds := D_b77 (Or.inl (hw _ (List.mem_of_getElem? (i := 17) rfl))) (ty := (.array .long)) (by decide)
            have F_b77_firstNanos := D_b77 (Or.inl (hw _ (List.mem_of_getElem? (i := 19) rfl))) (ty := (.array .int)) (by decide)
            have F_b77_lastSeconds := D_b77 (Or.inl (hw _ (List.mem_of_getElem? (i := 21) rfl))) (ty := (.array .long)) (by decide)
            have F_b77_lastNanos := D_b77 (Or.inl (hw _ (List.mem_of_getElem? (i := 23) rfl))) (ty := (.array .int)) (by decide)
            have F_b77_records := D_b77 (Or.inl (hw _ (List.mem_of_getElem? (i := 25) rfl))) (ty := (.array .long)) (by decide)
            have F_b77_entities := D_b77 (Or.inl (hw _ (List.mem_of_getElem? (i := 27) rfl))) (ty := (.array .int)) (by decide)
            have F_b77_others := D_b77 (Or.inl (hw _ (List.mem_of_getElem? (i := 31) rfl))) (ty := (.array (.array .int))) (by decide)
            have F_b77_otherCounts := D_b77 (Or.inl (hw _ (List.mem_of_getElem? (i := 33) rfl))) (ty := (.array .int)) (by decide)
            have F_b77_earlier := D_b77 (Or.inl (hw _ (List.mem_of_getElem? (i := 35) rfl))) (ty := (.array .int)) (by decide)
            have F_b77_later := D_b77 (Or.inl (hw _ (List.mem_of_getElem? (i := 37) rfl))) (ty := (.array .int)) (by decide)
            have F_b77_unused := D_b77 (Or.inl (hw _ (List.mem_of_getElem? (i := 39) rfl))) (ty := .int) (by decide)
            have F_b77_used := D_b77 (Or.inl (hw _ (List.mem_of_getElem? (i := 41) rfl))) (ty := .int) (by decide)
            refine dup P at_87 rfl (n := 88) rfl ?_
            refine callN P at_88 (a := b77) (argsL := []) (rest := [(.ref b77)]) (c_new l Z a0 hw b77 h78 n0 P.low E_b77 F_b77_unused F_b77_used F_b77_ids F_b77_ordinals F_b77_firstSeconds F_b77_firstNanos F_b77_lastSeconds F_b77_lastNanos F_b77_records F_b77_entities F_b77_others F_b77_otherCounts F_b77_earlier F_b77_later lo_b77) rfl (hw _ (List.mem_of_getElem? (i := 4) rfl)) (hw _ (List.mem_of_getElem? (i := 5) rfl)) (hw _ (List.mem_of_getElem? (i := 3) rfl)) (hw _ (List.mem_of_getElem? (i := 6) rfl)) (by decide) pd_1 rfl rfl rfl ⟨by decide, Nat.le_of_ble_eq_true rfl, by decide, by decide⟩ (n := 91) rfl ?_
            rintro T h81 v P ⟨rfl, O82⟩
            show Jvm.Own.Ends p e below s room_1 n0 (fun v _ => v = some (.int 1)) T (mkF m 91 #[.val (.int u), .val (.int w), .val (.int (0 : Int32)), .val (.int (1 : Int32)), .val (.int (2 : Int32)), .val (.int (2 : Int32)), .val (.int (1 : Int32)), .val (.int (1 : Int32)), .val (.int (3 : Int32)), .val (.int (2 : Int32)), .val (.int (2 : Int32)), .val (.int (3 : Int32)), .unset, .unset, .unset, .unset] [(.ref b77)])
            rw [own_tab0] at O82
            replace O82 : own_OS Z n0 h81 b77 (0 : Int32) (1 : Int32) (own_tab [0, 0, 0, 0, 0, 0]) (own_tab [0, 0, 0, 0, 0, 0]) := O82
            refine astore P at_91 rfl (l' := #[.val (.int u), .val (.int w), .val (.int (0 : Int32)), .val (.int (1 : Int32)), .val (.int (2 : Int32)), .val (.int (2 : Int32)), .val (.int (1 : Int32)), .val (.int (1 : Int32)), .val (.int (3 : Int32)), .val (.int (2 : Int32)), .val (.int (2 : Int32)), .val (.int (3 : Int32)), .val (.ref b77), .unset, .unset, .unset]) rfl (n := 93) rfl ?_
            refine aload P at_93 rfl rfl (n := 95) rfl ?_
            refine ldc2J P at_95 (hw _ (List.mem_of_getElem? (i := 42) rfl)) (n := 98) rfl ?_
            refine iconst P at_98 (x := (1 : Int32)) rfl (n := 99) rfl ?_
            refine lconst P at_99 (x := (0 : Int64)) rfl (n := 100) rfl ?_
            refine iconst P at_100 (x := (0 : Int32)) rfl (n := 101) rfl ?_
            refine iconst P at_101 (x := (1 : Int32)) rfl (n := 102) rfl ?_
            refine callV P at_102 (a := b77) (argsL := [(.long (10 : Int64)), (.int (1 : Int32)), (.long (0 : Int64)), (.int (0 : Int32)), (.int (1 : Int32))]) (rest := []) (c_open l Z a0 hw b77 (10 : Int64) (1 : Int32) (0 : Int64) (0 : Int32) (1 : Int32) (0 : Int32) (1 : Int32) (own_tab [0, 0, 0, 0, 0, 0]) (own_tab [0, 0, 0, 0, 0, 0]) h81 n0 P.low O82 (by decide) (by decide) (by decide)) (own_OS_exa O82) (hw _ (List.mem_of_getElem? (i := 43) rfl)) (hw _ (List.mem_of_getElem? (i := 44) rfl)) (notFace_of_selects (args := #[]) (mvT P.hZ (hw _ (List.mem_of_getElem? (i := 46) rfl)))) (hw _ (List.mem_of_getElem? (i := 46) rfl)) (hw _ (List.mem_of_getElem? (i := 45) rfl)) (hw _ (List.mem_of_getElem? (i := 3) rfl)) (hw _ (List.mem_of_getElem? (i := 47) rfl)) (by decide) pd_2 rfl rfl rfl ⟨by decide, Nat.le_of_ble_eq_true rfl, by decide, by decide⟩ (n := 105) rfl ?_
            rintro T h83 v P hq
            obtain ⟨rfl, O84⟩ := hq.1 (by decide)
            show Jvm.Own.Ends p e below s room_1 n0 (fun v _ => v = some (.int 1)) T (mkF m 105 #[.val (.int u), .val (.int w), .val (.int (0 : Int32)), .val (.int (1 : Int32)), .val (.int (2 : Int32)), .val (.int (2 : Int32)), .val (.int (1 : Int32)), .val (.int (1 : Int32)), .val (.int (3 : Int32)), .val (.int (2 : Int32)), .val (.int (2 : Int32)), .val (.int (3 : Int32)), .val (.ref b77), .unset, .unset, .unset] [(.int (1 : Int32))])
            have t85 : (ovr (ovr (own_tab [0, 0, 0, 0, 0, 0]) (1 : Int32).toInt.toNat ((own_tab [0, 0, 0, 0, 0, 0]) 0)) 0 (1 : Int32)) = own_tab [1, 0, 0, 0, 0, 0] := by rw [own_tab_set [0, 0, 0, 0, 0, 0] (1 : Int32).toInt.toNat ((own_tab [0, 0, 0, 0, 0, 0]) 0) (by decide), own_tab_set ([0, 0, 0, 0, 0, 0].set (1 : Int32).toInt.toNat ((own_tab [0, 0, 0, 0, 0, 0]) 0)) 0 (1 : Int32) (by decide)]; rfl
            rw [t85] at O84
            have t86 : (ovr (ovr (own_tab [0, 0, 0, 0, 0, 0]) (1 : Int32).toInt.toNat 0) ((own_tab [0, 0, 0, 0, 0, 0]) 0).toInt.toNat (1 : Int32)) = own_tab [1, 0, 0, 0, 0, 0] := by rw [own_tab_set [0, 0, 0, 0, 0, 0] (1 : Int32).toInt.toNat 0 (by decide), own_tab_set ([0, 0, 0, 0, 0, 0].set (1 : Int32).toInt.toNat 0) ((own_tab [0, 0, 0, 0, 0, 0]) 0).toInt.toNat (1 : Int32) (by decide)]; rfl
            rw [t86] at O84
            replace O84 : own_OS Z n0 h83 b77 (0 : Int32) (2 : Int32) (own_tab [1, 0, 0, 0, 0, 0]) (own_tab [1, 0, 0, 0, 0, 0]) := O84
            refine istore P at_105 (l' := #[.val (.int u), .val (.int w), .val (.int (0 : Int32)), .val (.int (1 : Int32)), .val (.int (2 : Int32)), .val (.int (2 : Int32)), .val (.int (1 : Int32)), .val (.int (1 : Int32)), .val (.int (3 : Int32)), .val (.int (2 : Int32)), .val (.int (2 : Int32)), .val (.int (3 : Int32)), .val (.ref b77), .val (.int (1 : Int32)), .unset, .unset]) rfl (n := 107) rfl ?_
            refine aload P at_107 rfl rfl (n := 109) rfl ?_
            refine ldc2J P at_109 (hw _ (List.mem_of_getElem? (i := 52) rfl)) (n := 112) rfl ?_
            refine iconst P at_112 (x := (1 : Int32)) rfl (n := 113) rfl ?_
            refine lconst P at_113 (x := (1 : Int64)) rfl (n := 114) rfl ?_
            refine iconst P at_114 (x := (0 : Int32)) rfl (n := 115) rfl ?_
            refine iconst P at_115 (x := (2 : Int32)) rfl (n := 116) rfl ?_
            refine callV P at_116 (a := b77) (argsL := [(.long (20 : Int64)), (.int (1 : Int32)), (.long (1 : Int64)), (.int (0 : Int32)), (.int (2 : Int32))]) (rest := []) (c_open l Z a0 hw b77 (20 : Int64) (1 : Int32) (1 : Int64) (0 : Int32) (2 : Int32) (0 : Int32) (2 : Int32) (own_tab [1, 0, 0, 0, 0, 0]) (own_tab [1, 0, 0, 0, 0, 0]) h83 n0 P.low O84 (by decide) (by decide) (by decide)) (own_OS_exa O84) (hw _ (List.mem_of_getElem? (i := 43) rfl)) (hw _ (List.mem_of_getElem? (i := 44) rfl)) (notFace_of_selects (args := #[]) (mvT P.hZ (hw _ (List.mem_of_getElem? (i := 46) rfl)))) (hw _ (List.mem_of_getElem? (i := 46) rfl)) (hw _ (List.mem_of_getElem? (i := 45) rfl)) (hw _ (List.mem_of_getElem? (i := 3) rfl)) (hw _ (List.mem_of_getElem? (i := 47) rfl)) (by decide) pd_2 rfl rfl rfl ⟨by decide, Nat.le_of_ble_eq_true rfl, by decide, by decide⟩ (n := 119) rfl ?_
            rintro T h87 v P hq
            obtain ⟨rfl, O88⟩ := hq.1 (by decide)
            show Jvm.Own.Ends p e below s room_1 n0 (fun v _ => v = some (.int 1)) T (mkF m 119 #[.val (.int u), .val (.int w), .val (.int (0 : Int32)), .val (.int (1 : Int32)), .val (.int (2 : Int32)), .val (.int (2 : Int32)), .val (.int (1 : Int32)), .val (.int (1 : Int32)), .val (.int (3 : Int32)), .val (.int (2 : Int32)), .val (.int (2 : Int32)), .val (.int (3 : Int32)), .val (.ref b77), .val (.int (1 : Int32)), .unset, .unset] [(.int (2 : Int32))])
            have t89 : (ovr (ovr (own_tab [1, 0, 0, 0, 0, 0]) (2 : Int32).toInt.toNat ((own_tab [1, 0, 0, 0, 0, 0]) 0)) 0 (2 : Int32)) = own_tab [2, 0, 1, 0, 0, 0] := by rw [own_tab_set [1, 0, 0, 0, 0, 0] (2 : Int32).toInt.toNat ((own_tab [1, 0, 0, 0, 0, 0]) 0) (by decide), own_tab_set ([1, 0, 0, 0, 0, 0].set (2 : Int32).toInt.toNat ((own_tab [1, 0, 0, 0, 0, 0]) 0)) 0 (2 : Int32) (by decide)]; rfl
            rw [t89] at O88
            have t90 : (ovr (ovr (own_tab [1, 0, 0, 0, 0, 0]) (2 : Int32).toInt.toNat 0) ((own_tab [1, 0, 0, 0, 0, 0]) 0).toInt.toNat (2 : Int32)) = own_tab [1, 2, 0, 0, 0, 0] := by rw [own_tab_set [1, 0, 0, 0, 0, 0] (2 : Int32).toInt.toNat 0 (by decide), own_tab_set ([1, 0, 0, 0, 0, 0].set (2 : Int32).toInt.toNat 0) ((own_tab [1, 0, 0, 0, 0, 0]) 0).toInt.toNat (2 : Int32) (by decide)]; rfl
            rw [t90] at O88
            replace O88 : own_OS Z n0 h87 b77 (0 : Int32) (3 : Int32) (own_tab [2, 0, 1, 0, 0, 0]) (own_tab [1, 2, 0, 0, 0, 0]) := O88
            refine istore P at_119 (l' := #[.val (.int u), .val (.int w), .val (.int (0 : Int32)), .val (.int (1 : Int32)), .val (.int (2 : Int32)), .val (.int (2 : Int32)), .val (.int (1 : Int32)), .val (.int (1 : Int32)), .val (.int (3 : Int32)), .val (.int (2 : Int32)), .val (.int (2 : Int32)), .val (.int (3 : Int32)), .val (.ref b77), .val (.int (1 : Int32)), .val (.int (2 : Int32)), .unset]) rfl (n := 121) rfl ?_
            refine aload P at_121 rfl rfl (n := 123) rfl ?_
            refine ldc2J P at_123 (hw _ (List.mem_of_getElem? (i := 53) rfl)) (n := 126) rfl ?_
            refine iconst P at_126 (x := (1 : Int32)) rfl (n := 127) rfl ?_
            refine ldc2J P at_127 (hw _ (List.mem_of_getElem? (i := 54) rfl)) (n := 130) rfl ?_
            refine iconst P at_130 (x := (0 : Int32)) rfl (n := 131) rfl ?_
            refine iconst P at_131 (x := (3 : Int32)) rfl (n := 132) rfl ?_
            refine callV P at_132 (a := b77) (argsL := [(.long (30 : Int64)), (.int (1 : Int32)), (.long (2 : Int64)), (.int (0 : Int32)), (.int (3 : Int32))]) (rest := []) (c_open l Z a0 hw b77 (30 : Int64) (1 : Int32) (2 : Int64) (0 : Int32) (3 : Int32) (0 : Int32) (3 : Int32) (own_tab [2, 0, 1, 0, 0, 0]) (own_tab [1, 2, 0, 0, 0, 0]) h87 n0 P.low O88 (by decide) (by decide) (by decide)) (own_OS_exa O88) (hw _ (List.mem_of_getElem? (i := 43) rfl)) (hw _ (List.mem_of_getElem? (i := 44) rfl)) (notFace_of_selects (args := #[]) (mvT P.hZ (hw _ (List.mem_of_getElem? (i := 46) rfl)))) (hw _ (List.mem_of_getElem? (i := 46) rfl)) (hw _ (List.mem_of_getElem? (i := 45) rfl)) (hw _ (List.mem_of_getElem? (i := 3) rfl)) (hw _ (List.mem_of_getElem? (i := 47) rfl)) (by decide) pd_2 rfl rfl rfl ⟨by decide, Nat.le_of_ble_eq_true rfl, by decide, by decide⟩ (n := 135) rfl ?_
            rintro T h91 v P hq
            obtain ⟨rfl, O92⟩ := hq.1 (by decide)
            show Jvm.Own.Ends p e below s room_1 n0 (fun v _ => v = some (.int 1)) T (mkF m 135 #[.val (.int u), .val (.int w), .val (.int (0 : Int32)), .val (.int (1 : Int32)), .val (.int (2 : Int32)), .val (.int (2 : Int32)), .val (.int (1 : Int32)), .val (.int (1 : Int32)), .val (.int (3 : Int32)), .val (.int (2 : Int32)), .val (.int (2 : Int32)), .val (.int (3 : Int32)), .val (.ref b77), .val (.int (1 : Int32)), .val (.int (2 : Int32)), .unset] [(.int (3 : Int32))])
            have t93 : (ovr (ovr (own_tab [2, 0, 1, 0, 0, 0]) (3 : Int32).toInt.toNat ((own_tab [2, 0, 1, 0, 0, 0]) 0)) 0 (3 : Int32)) = own_tab [3, 0, 1, 2, 0, 0] := by rw [own_tab_set [2, 0, 1, 0, 0, 0] (3 : Int32).toInt.toNat ((own_tab [2, 0, 1, 0, 0, 0]) 0) (by decide), own_tab_set ([2, 0, 1, 0, 0, 0].set (3 : Int32).toInt.toNat ((own_tab [2, 0, 1, 0, 0, 0]) 0)) 0 (3 : Int32) (by decide)]; rfl
            rw [t93] at O92
            have t94 : (ovr (ovr (own_tab [1, 2, 0, 0, 0, 0]) (3 : Int32).toInt.toNat 0) ((own_tab [2, 0, 1, 0, 0, 0]) 0).toInt.toNat (3 : Int32)) = own_tab [1, 2, 3, 0, 0, 0] := by rw [own_tab_set [1, 2, 0, 0, 0, 0] (3 : Int32).toInt.toNat 0 (by decide), own_tab_set ([1, 2, 0, 0, 0, 0].set (3 : Int32).toInt.toNat 0) ((own_tab [2, 0, 1, 0, 0, 0]) 0).toInt.toNat (3 : Int32) (by decide)]; rfl
            rw [t94] at O92
            replace O92 : own_OS Z n0 h91 b77 (0 : Int32) (4 : Int32) (own_tab [3, 0, 1, 2, 0, 0]) (own_tab [1, 2, 3, 0, 0, 0]) := O92
            refine istore P at_135 (l' := #[.val (.int u), .val (.int w), .val (.int (0 : Int32)), .val (.int (1 : Int32)), .val (.int (2 : Int32)), .val (.int (2 : Int32)), .val (.int (1 : Int32)), .val (.int (1 : Int32)), .val (.int (3 : Int32)), .val (.int (2 : Int32)), .val (.int (2 : Int32)), .val (.int (3 : Int32)), .val (.ref b77), .val (.int (1 : Int32)), .val (.int (2 : Int32)), .val (.int (3 : Int32))]) rfl (n := 137) rfl ?_
            refine iload P at_137 rfl (n := 139) rfl ?_
            refine iconst P at_139 (x := (1 : Int32)) rfl (n := 140) rfl ?_
            refine icmp_ne P at_140 (n' := 155) (n := 143) (by decide) rfl (fun hc140 => ?_) (fun hc140 => ?_)
            · -- pc 140 taken
              replace hc140 : ¬ (1 : Int) = (1 : Int) := hc140
              exact absurd hc140 (by decide)
            · -- pc 140 not taken
              replace hc140 : (1 : Int) = (1 : Int) := hc140
              refine iload P at_143 rfl (n := 145) rfl ?_
              refine iconst P at_145 (x := (2 : Int32)) rfl (n := 146) rfl ?_
              refine icmp_ne P at_146 (n' := 155) (n := 149) (by decide) rfl (fun hc146 => ?_) (fun hc146 => ?_)
              · -- pc 146 taken
                replace hc146 : ¬ (2 : Int) = (2 : Int) := hc146
                exact absurd hc146 (by decide)
              · -- pc 146 not taken
                replace hc146 : (2 : Int) = (2 : Int) := hc146
                refine iload P at_149 rfl (n := 151) rfl ?_
                refine iconst P at_151 (x := (3 : Int32)) rfl (n := 152) rfl ?_
                refine icmp_eq P at_152 (n' := 157) (n := 155) (by decide) rfl (fun hc152 => ?_) (fun hc152 => ?_)
                · -- pc 152 taken
                  replace hc152 : (3 : Int) = (3 : Int) := hc152
                  refine aload P at_157 rfl rfl (n := 159) rfl ?_
                  refine iload P at_159 rfl (n := 161) rfl ?_
                  refine callV P at_161 (a := b77) (argsL := [(.int (1 : Int32))]) (rest := []) (c_end l Z a0 hw b77 (1 : Int32) (0 : Int32) (4 : Int32) (own_tab [3, 0, 1, 2, 0, 0]) (own_tab [1, 2, 3, 0, 0, 0]) h91 n0 P.low O92 (by decide) (by decide) (by decide) (by decide)) (own_OS_exa O92) (hw _ (List.mem_of_getElem? (i := 55) rfl)) (hw _ (List.mem_of_getElem? (i := 56) rfl)) (notFace_of_selects (args := #[]) (mvT P.hZ (hw _ (List.mem_of_getElem? (i := 58) rfl)))) (hw _ (List.mem_of_getElem? (i := 58) rfl)) (hw _ (List.mem_of_getElem? (i := 57) rfl)) (hw _ (List.mem_of_getElem? (i := 3) rfl)) (hw _ (List.mem_of_getElem? (i := 59) rfl)) (by decide) pd_0 rfl rfl rfl ⟨by decide, Nat.le_of_ble_eq_true rfl, by decide, by decide⟩ (n := 164) rfl ?_
                  rintro T h95 v P ⟨rfl, O96⟩
                  show Jvm.Own.Ends p e below s room_1 n0 (fun v _ => v = some (.int 1)) T (mkF m 164 #[.val (.int u), .val (.int w), .val (.int (0 : Int32)), .val (.int (1 : Int32)), .val (.int (2 : Int32)), .val (.int (2 : Int32)), .val (.int (1 : Int32)), .val (.int (1 : Int32)), .val (.int (3 : Int32)), .val (.int (2 : Int32)), .val (.int (2 : Int32)), .val (.int (3 : Int32)), .val (.ref b77), .val (.int (1 : Int32)), .val (.int (2 : Int32)), .val (.int (3 : Int32))] [])
                  have t97 : (ovr (own_tab [1, 2, 3, 0, 0, 0]) ((own_tab [3, 0, 1, 2, 0, 0]) (1 : Int32).toInt.toNat).toInt.toNat ((own_tab [1, 2, 3, 0, 0, 0]) (1 : Int32).toInt.toNat)) = own_tab [2, 2, 3, 0, 0, 0] := by rw [own_tab_set [1, 2, 3, 0, 0, 0] ((own_tab [3, 0, 1, 2, 0, 0]) (1 : Int32).toInt.toNat).toInt.toNat ((own_tab [1, 2, 3, 0, 0, 0]) (1 : Int32).toInt.toNat) (by decide)]; rfl
                  rw [t97] at O96
                  have t98 : (ovr (own_tab [2, 2, 3, 0, 0, 0]) (1 : Int32).toInt.toNat (0 : Int32)) = own_tab [2, 0, 3, 0, 0, 0] := by rw [own_tab_set [2, 2, 3, 0, 0, 0] (1 : Int32).toInt.toNat (0 : Int32) (by decide)]; rfl
                  rw [t98] at O96
                  have t99 : (ovr (own_tab [3, 0, 1, 2, 0, 0]) ((own_tab [2, 2, 3, 0, 0, 0]) (1 : Int32).toInt.toNat).toInt.toNat ((own_tab [3, 0, 1, 2, 0, 0]) (1 : Int32).toInt.toNat)) = own_tab [3, 0, 0, 2, 0, 0] := by rw [own_tab_set [3, 0, 1, 2, 0, 0] ((own_tab [2, 2, 3, 0, 0, 0]) (1 : Int32).toInt.toNat).toInt.toNat ((own_tab [3, 0, 1, 2, 0, 0]) (1 : Int32).toInt.toNat) (by decide)]; rfl
                  rw [t99] at O96
                  replace O96 : own_OS Z n0 h95 b77 (1 : Int32) (4 : Int32) (own_tab [3, 0, 0, 2, 0, 0]) (own_tab [2, 0, 3, 0, 0, 0]) := O96
                  refine iloadN P at_164 rfl (n := 165) rfl ?_
                  refine if0_ne P at_165 (n' := 253) (n := 168) (by decide) rfl (fun hc165 => ?_) (fun hc165 => ?_)
                  · -- pc 165 taken
                    replace hc165 : ¬ (1 : Int) = (0 : Int) := hc165
                    refine aload P at_253 rfl rfl (n := 255) rfl ?_
                    refine iload P at_255 rfl (n := 257) rfl ?_
                    refine callV P at_257 (a := b77) (argsL := [(.int (3 : Int32))]) (rest := []) (c_end l Z a0 hw b77 (3 : Int32) (1 : Int32) (4 : Int32) (own_tab [3, 0, 0, 2, 0, 0]) (own_tab [2, 0, 3, 0, 0, 0]) h95 n0 P.low O96 (by decide) (by decide) (by decide) (by decide)) (own_OS_exa O96) (hw _ (List.mem_of_getElem? (i := 55) rfl)) (hw _ (List.mem_of_getElem? (i := 56) rfl)) (notFace_of_selects (args := #[]) (mvT P.hZ (hw _ (List.mem_of_getElem? (i := 58) rfl)))) (hw _ (List.mem_of_getElem? (i := 58) rfl)) (hw _ (List.mem_of_getElem? (i := 57) rfl)) (hw _ (List.mem_of_getElem? (i := 3) rfl)) (hw _ (List.mem_of_getElem? (i := 59) rfl)) (by decide) pd_0 rfl rfl rfl ⟨by decide, Nat.le_of_ble_eq_true rfl, by decide, by decide⟩ (n := 260) rfl ?_
                    rintro T h100 v P ⟨rfl, O101⟩
                    show Jvm.Own.Ends p e below s room_1 n0 (fun v _ => v = some (.int 1)) T (mkF m 260 #[.val (.int u), .val (.int w), .val (.int (0 : Int32)), .val (.int (1 : Int32)), .val (.int (2 : Int32)), .val (.int (2 : Int32)), .val (.int (1 : Int32)), .val (.int (1 : Int32)), .val (.int (3 : Int32)), .val (.int (2 : Int32)), .val (.int (2 : Int32)), .val (.int (3 : Int32)), .val (.ref b77), .val (.int (1 : Int32)), .val (.int (2 : Int32)), .val (.int (3 : Int32))] [])
                    have t102 : (ovr (own_tab [2, 0, 3, 0, 0, 0]) ((own_tab [3, 0, 0, 2, 0, 0]) (3 : Int32).toInt.toNat).toInt.toNat ((own_tab [2, 0, 3, 0, 0, 0]) (3 : Int32).toInt.toNat)) = own_tab [2, 0, 0, 0, 0, 0] := by rw [own_tab_set [2, 0, 3, 0, 0, 0] ((own_tab [3, 0, 0, 2, 0, 0]) (3 : Int32).toInt.toNat).toInt.toNat ((own_tab [2, 0, 3, 0, 0, 0]) (3 : Int32).toInt.toNat) (by decide)]; rfl
                    rw [t102] at O101
                    have t103 : (ovr (own_tab [2, 0, 0, 0, 0, 0]) (3 : Int32).toInt.toNat (1 : Int32)) = own_tab [2, 0, 0, 1, 0, 0] := by rw [own_tab_set [2, 0, 0, 0, 0, 0] (3 : Int32).toInt.toNat (1 : Int32) (by decide)]; rfl
                    rw [t103] at O101
                    have t104 : (ovr (own_tab [3, 0, 0, 2, 0, 0]) ((own_tab [2, 0, 0, 0, 0, 0]) (3 : Int32).toInt.toNat).toInt.toNat ((own_tab [3, 0, 0, 2, 0, 0]) (3 : Int32).toInt.toNat)) = own_tab [2, 0, 0, 2, 0, 0] := by rw [own_tab_set [3, 0, 0, 2, 0, 0] ((own_tab [2, 0, 0, 0, 0, 0]) (3 : Int32).toInt.toNat).toInt.toNat ((own_tab [3, 0, 0, 2, 0, 0]) (3 : Int32).toInt.toNat) (by decide)]; rfl
                    rw [t104] at O101
                    replace O101 : own_OS Z n0 h100 b77 (3 : Int32) (4 : Int32) (own_tab [2, 0, 0, 2, 0, 0]) (own_tab [2, 0, 0, 1, 0, 0]) := O101
                    refine aload P at_260 rfl rfl (n := 262) rfl ?_
                    refine callV P at_262 (a := b77) (argsL := []) (rest := []) (c_first l Z a0 hw b77 (3 : Int32) (4 : Int32) (own_tab [2, 0, 0, 2, 0, 0]) (own_tab [2, 0, 0, 1, 0, 0]) h100 n0 P.low O101) (own_OS_exa O101) (hw _ (List.mem_of_getElem? (i := 64) rfl)) (hw _ (List.mem_of_getElem? (i := 65) rfl)) (notFace_of_selects (args := #[]) (mvT P.hZ (hw _ (List.mem_of_getElem? (i := 67) rfl)))) (hw _ (List.mem_of_getElem? (i := 67) rfl)) (hw _ (List.mem_of_getElem? (i := 66) rfl)) (hw _ (List.mem_of_getElem? (i := 3) rfl)) (hw _ (List.mem_of_getElem? (i := 68) rfl)) (by decide) pd_3 rfl rfl rfl ⟨by decide, Nat.le_of_ble_eq_true rfl, by decide, by decide⟩ (n := 265) rfl (Ret.on ?_)
                    intro T P
                    rw [show (own_tab [2, 0, 0, 1, 0, 0]) 0 = (2 : Int32) from rfl]
                    refine iload P at_265 rfl (n := 267) rfl ?_
                    refine icmp_eq P at_267 (n' := 272) (n := 270) (by decide) rfl (fun hc267 => ?_) (fun hc267 => ?_)
                    · -- pc 267 taken
                      replace hc267 : (2 : Int) = (2 : Int) := hc267
                      refine aload P at_272 rfl rfl (n := 274) rfl ?_
                      refine iload P at_274 rfl (n := 276) rfl ?_
                      refine callV P at_276 (a := b77) (argsL := [(.int (2 : Int32))]) (rest := []) (c_after l Z a0 hw b77 (2 : Int32) (3 : Int32) (4 : Int32) (own_tab [2, 0, 0, 2, 0, 0]) (own_tab [2, 0, 0, 1, 0, 0]) h100 n0 P.low O101 (by decide)) (own_OS_exa O101) (hw _ (List.mem_of_getElem? (i := 69) rfl)) (hw _ (List.mem_of_getElem? (i := 70) rfl)) (notFace_of_selects (args := #[]) (mvT P.hZ (hw _ (List.mem_of_getElem? (i := 72) rfl)))) (hw _ (List.mem_of_getElem? (i := 72) rfl)) (hw _ (List.mem_of_getElem? (i := 71) rfl)) (hw _ (List.mem_of_getElem? (i := 3) rfl)) (hw _ (List.mem_of_getElem? (i := 73) rfl)) (by decide) pd_4 rfl rfl rfl ⟨by decide, Nat.le_of_ble_eq_true rfl, by decide, by decide⟩ (n := 279) rfl (Ret.on ?_)
                      intro T P
                      rw [show (own_tab [2, 0, 0, 1, 0, 0]) (2 : Int32).toInt.toNat = (0 : Int32) from rfl]
                      refine if0_eq P at_279 (n' := 284) (n := 282) (by decide) rfl (fun hc279 => ?_) (fun hc279 => ?_)
                      · -- pc 279 taken
                        replace hc279 : (0 : Int) = (0 : Int) := hc279
                        refine aload P at_284 rfl rfl (n := 286) rfl ?_
                        refine ldc2J P at_286 (hw _ (List.mem_of_getElem? (i := 74) rfl)) (n := 289) rfl ?_
                        refine iconst P at_289 (x := (1 : Int32)) rfl (n := 290) rfl ?_
                        refine ldc2J P at_290 (hw _ (List.mem_of_getElem? (i := 75) rfl)) (n := 293) rfl ?_
                        refine iconst P at_293 (x := (0 : Int32)) rfl (n := 294) rfl ?_
                        refine iconst P at_294 (x := (4 : Int32)) rfl (n := 295) rfl ?_
                        refine callV P at_295 (a := b77) (argsL := [(.long (40 : Int64)), (.int (1 : Int32)), (.long (3 : Int64)), (.int (0 : Int32)), (.int (4 : Int32))]) (rest := []) (c_open l Z a0 hw b77 (40 : Int64) (1 : Int32) (3 : Int64) (0 : Int32) (4 : Int32) (3 : Int32) (4 : Int32) (own_tab [2, 0, 0, 2, 0, 0]) (own_tab [2, 0, 0, 1, 0, 0]) h100 n0 P.low O101 (by decide) (by decide) (by decide)) (own_OS_exa O101) (hw _ (List.mem_of_getElem? (i := 43) rfl)) (hw _ (List.mem_of_getElem? (i := 44) rfl)) (notFace_of_selects (args := #[]) (mvT P.hZ (hw _ (List.mem_of_getElem? (i := 46) rfl)))) (hw _ (List.mem_of_getElem? (i := 46) rfl)) (hw _ (List.mem_of_getElem? (i := 45) rfl)) (hw _ (List.mem_of_getElem? (i := 3) rfl)) (hw _ (List.mem_of_getElem? (i := 47) rfl)) (by decide) pd_2 rfl rfl rfl ⟨by decide, Nat.le_of_ble_eq_true rfl, by decide, by decide⟩ (n := 298) rfl ?_
                        rintro T h105 v P hq
                        obtain ⟨rfl, O106⟩ := hq.2 (by decide)
                        show Jvm.Own.Ends p e below s room_1 n0 (fun v _ => v = some (.int 1)) T (mkF m 298 #[.val (.int u), .val (.int w), .val (.int (0 : Int32)), .val (.int (1 : Int32)), .val (.int (2 : Int32)), .val (.int (2 : Int32)), .val (.int (1 : Int32)), .val (.int (1 : Int32)), .val (.int (3 : Int32)), .val (.int (2 : Int32)), .val (.int (2 : Int32)), .val (.int (3 : Int32)), .val (.ref b77), .val (.int (1 : Int32)), .val (.int (2 : Int32)), .val (.int (3 : Int32))] [(.int (3 : Int32))])
                        have t107 : (ovr (ovr (own_tab [2, 0, 0, 2, 0, 0]) (3 : Int32).toInt.toNat ((own_tab [2, 0, 0, 2, 0, 0]) 0)) 0 (3 : Int32)) = own_tab [3, 0, 0, 2, 0, 0] := by rw [own_tab_set [2, 0, 0, 2, 0, 0] (3 : Int32).toInt.toNat ((own_tab [2, 0, 0, 2, 0, 0]) 0) (by decide), own_tab_set ([2, 0, 0, 2, 0, 0].set (3 : Int32).toInt.toNat ((own_tab [2, 0, 0, 2, 0, 0]) 0)) 0 (3 : Int32) (by decide)]; rfl
                        rw [t107] at O106
                        have t108 : (ovr (ovr (own_tab [2, 0, 0, 1, 0, 0]) (3 : Int32).toInt.toNat 0) ((own_tab [2, 0, 0, 2, 0, 0]) 0).toInt.toNat (3 : Int32)) = own_tab [2, 0, 3, 0, 0, 0] := by rw [own_tab_set [2, 0, 0, 1, 0, 0] (3 : Int32).toInt.toNat 0 (by decide), own_tab_set ([2, 0, 0, 1, 0, 0].set (3 : Int32).toInt.toNat 0) ((own_tab [2, 0, 0, 2, 0, 0]) 0).toInt.toNat (3 : Int32) (by decide)]; rfl
                        rw [t108] at O106
                        replace O106 : own_OS Z n0 h105 b77 (1 : Int32) (4 : Int32) (own_tab [3, 0, 0, 2, 0, 0]) (own_tab [2, 0, 3, 0, 0, 0]) := O106
                        refine iload P at_298 rfl (n := 300) rfl ?_
                        refine icmp_eq P at_300 (n' := 305) (n := 303) (by decide) rfl (fun hc300 => ?_) (fun hc300 => ?_)
                        · -- pc 300 taken
                          replace hc300 : (3 : Int) = (3 : Int) := hc300
                          refine aload P at_305 rfl rfl (n := 307) rfl ?_
                          refine ldc2J P at_307 (hw _ (List.mem_of_getElem? (i := 76) rfl)) (n := 310) rfl ?_
                          refine iconst P at_310 (x := (1 : Int32)) rfl (n := 311) rfl ?_
                          refine ldc2J P at_311 (hw _ (List.mem_of_getElem? (i := 77) rfl)) (n := 314) rfl ?_
                          refine iconst P at_314 (x := (0 : Int32)) rfl (n := 315) rfl ?_
                          refine iconst P at_315 (x := (5 : Int32)) rfl (n := 316) rfl ?_
                          refine callV P at_316 (a := b77) (argsL := [(.long (50 : Int64)), (.int (1 : Int32)), (.long (4 : Int64)), (.int (0 : Int32)), (.int (5 : Int32))]) (rest := []) (c_open l Z a0 hw b77 (50 : Int64) (1 : Int32) (4 : Int64) (0 : Int32) (5 : Int32) (1 : Int32) (4 : Int32) (own_tab [3, 0, 0, 2, 0, 0]) (own_tab [2, 0, 3, 0, 0, 0]) h105 n0 P.low O106 (by decide) (by decide) (by decide)) (own_OS_exa O106) (hw _ (List.mem_of_getElem? (i := 43) rfl)) (hw _ (List.mem_of_getElem? (i := 44) rfl)) (notFace_of_selects (args := #[]) (mvT P.hZ (hw _ (List.mem_of_getElem? (i := 46) rfl)))) (hw _ (List.mem_of_getElem? (i := 46) rfl)) (hw _ (List.mem_of_getElem? (i := 45) rfl)) (hw _ (List.mem_of_getElem? (i := 3) rfl)) (hw _ (List.mem_of_getElem? (i := 47) rfl)) (by decide) pd_2 rfl rfl rfl ⟨by decide, Nat.le_of_ble_eq_true rfl, by decide, by decide⟩ (n := 319) rfl ?_
                          rintro T h109 v P hq
                          obtain ⟨rfl, O110⟩ := hq.2 (by decide)
                          show Jvm.Own.Ends p e below s room_1 n0 (fun v _ => v = some (.int 1)) T (mkF m 319 #[.val (.int u), .val (.int w), .val (.int (0 : Int32)), .val (.int (1 : Int32)), .val (.int (2 : Int32)), .val (.int (2 : Int32)), .val (.int (1 : Int32)), .val (.int (1 : Int32)), .val (.int (3 : Int32)), .val (.int (2 : Int32)), .val (.int (2 : Int32)), .val (.int (3 : Int32)), .val (.ref b77), .val (.int (1 : Int32)), .val (.int (2 : Int32)), .val (.int (3 : Int32))] [(.int (1 : Int32))])
                          have t111 : (ovr (ovr (own_tab [3, 0, 0, 2, 0, 0]) (1 : Int32).toInt.toNat ((own_tab [3, 0, 0, 2, 0, 0]) 0)) 0 (1 : Int32)) = own_tab [1, 3, 0, 2, 0, 0] := by rw [own_tab_set [3, 0, 0, 2, 0, 0] (1 : Int32).toInt.toNat ((own_tab [3, 0, 0, 2, 0, 0]) 0) (by decide), own_tab_set ([3, 0, 0, 2, 0, 0].set (1 : Int32).toInt.toNat ((own_tab [3, 0, 0, 2, 0, 0]) 0)) 0 (1 : Int32) (by decide)]; rfl
                          rw [t111] at O110
                          have t112 : (ovr (ovr (own_tab [2, 0, 3, 0, 0, 0]) (1 : Int32).toInt.toNat 0) ((own_tab [3, 0, 0, 2, 0, 0]) 0).toInt.toNat (1 : Int32)) = own_tab [2, 0, 3, 1, 0, 0] := by rw [own_tab_set [2, 0, 3, 0, 0, 0] (1 : Int32).toInt.toNat 0 (by decide), own_tab_set ([2, 0, 3, 0, 0, 0].set (1 : Int32).toInt.toNat 0) ((own_tab [3, 0, 0, 2, 0, 0]) 0).toInt.toNat (1 : Int32) (by decide)]; rfl
                          rw [t112] at O110
                          replace O110 : own_OS Z n0 h109 b77 (0 : Int32) (4 : Int32) (own_tab [1, 3, 0, 2, 0, 0]) (own_tab [2, 0, 3, 1, 0, 0]) := O110
                          refine iload P at_319 rfl (n := 321) rfl ?_
                          refine icmp_ne P at_321 (n' := 328) (n := 324) (by decide) rfl (fun hc321 => ?_) (fun hc321 => ?_)
                          · -- pc 321 taken
                            replace hc321 : ¬ (1 : Int) = (1 : Int) := hc321
                            exact absurd hc321 (by decide)
                          · -- pc 321 not taken
                            replace hc321 : (1 : Int) = (1 : Int) := hc321
                            refine iconst P at_324 (x := (1 : Int32)) rfl (n := 325) rfl ?_
                            refine goto P at_325 (n := 329) (by decide) ?_
                            refine retZ P at_329 (by decide) (by decide) (by decide) ?_
                            exact rfl
                        · -- pc 300 not taken
                          replace hc300 : ¬ (3 : Int) = (3 : Int) := hc300
                          exact absurd hc300 (by decide)
                      · -- pc 279 not taken
                        replace hc279 : ¬ (0 : Int) = (0 : Int) := hc279
                        exact absurd hc279 (by decide)
                    · -- pc 267 not taken
                      replace hc267 : ¬ (2 : Int) = (2 : Int) := hc267
                      exact absurd hc267 (by decide)
                  · -- pc 165 not taken
                    replace hc165 : (1 : Int) = (0 : Int) := hc165
                    exact absurd hc165 (by decide)
                · -- pc 152 not taken
                  replace hc152 : ¬ (3 : Int) = (3 : Int) := hc152
                  exact absurd hc152 (by decide)
          · -- pc 74 not taken
            replace hc74 : (0 : Int) = (2 : Int) := hc74
            exact absurd hc74 (by decide)
  ·
    obtain rfl : z2 = (1 : Int32) := eqI q6
    refine istoreN P at_6 (l' := #[.val (.int u), .val (.int w), .val (.int (1 : Int32)), .unset, .unset, .unset, .unset, .unset, .unset, .unset, .unset, .unset, .unset, .unset, .unset, .unset]) rfl (n := 7) rfl ?_
    refine iloadN P at_7 rfl (n := 8) rfl ?_
    refine iconst P at_8 (x := (1 : Int32)) rfl (n := 9) rfl ?_
    refine iand P at_9 (n := 10) rfl ?_
    refine nameI (x := (w &&& (1 : Int32))) (F := fun z113 => Jvm.Own.Ends p e below s room_1 n0 (fun v _ => v = some (.int 1)) T (mkF m 10 #[.val (.int u), .val (.int w), .val (.int (1 : Int32)), .unset, .unset, .unset, .unset, .unset, .unset, .unset, .unset, .unset, .unset, .unset, .unset, .unset] [(.int z113)])) ?_
    intro z113 hz113
    have tz113 : z113.toInt = w.toInt % 2 := n_mask 1 hz113 rfl (by decide)
    refine if0_eq P at_10 (n' := 17) (n := 13) (by decide) rfl (fun hc10 => ?_) (fun hc10 => ?_)
    · -- pc 10 taken
      replace hc10 : z113.toInt = (0 : Int) := hc10
      refine iconst P at_17 (x := (0 : Int32)) rfl (n := 18) rfl ?_
      refine istoreN P at_18 (l' := #[.val (.int u), .val (.int w), .val (.int (1 : Int32)), .val (.int (0 : Int32)), .unset, .unset, .unset, .unset, .unset, .unset, .unset, .unset, .unset, .unset, .unset, .unset]) rfl (n := 19) rfl ?_
      refine iloadN P at_19 rfl (n := 20) rfl ?_
      refine iconst P at_20 (x := (1 : Int32)) rfl (n := 21) rfl ?_
      refine iushr P at_21 (n := 22) rfl ?_
      refine nameI (x := ((w.toUInt32 >>> ((1 : Int32) &&& 31).toUInt32).toInt32)) (F := fun z114 => Jvm.Own.Ends p e below s room_1 n0 (fun v _ => v = some (.int 1)) T (mkF m 22 #[.val (.int u), .val (.int w), .val (.int (1 : Int32)), .val (.int (0 : Int32)), .unset, .unset, .unset, .unset, .unset, .unset, .unset, .unset, .unset, .unset, .unset, .unset] [(.int z114)])) ?_
      intro z114 hz114
      have tz114 : z114.toInt = (w.toInt % 4294967296) / 2 := n_iushr 1 hz114 rfl (by decide)
      refine iconst P at_22 (x := (1 : Int32)) rfl (n := 23) rfl ?_
      refine iand P at_23 (n := 24) rfl ?_
      refine nameI (x := (z114 &&& (1 : Int32))) (F := fun z115 => Jvm.Own.Ends p e below s room_1 n0 (fun v _ => v = some (.int 1)) T (mkF m 24 #[.val (.int u), .val (.int w), .val (.int (1 : Int32)), .val (.int (0 : Int32)), .unset, .unset, .unset, .unset, .unset, .unset, .unset, .unset, .unset, .unset, .unset, .unset] [(.int z115)])) ?_
      intro z115 hz115
      have tz115 : z115.toInt = z114.toInt % 2 := n_mask 1 hz115 rfl (by decide)
      refine iconst P at_24 (x := (1 : Int32)) rfl (n := 25) rfl ?_
      refine iadd P at_25 (n := 26) rfl ?_
      refine nameI (x := (z115 + (1 : Int32))) (F := fun z116 => Jvm.Own.Ends p e below s room_1 n0 (fun v _ => v = some (.int 1)) T (mkF m 26 #[.val (.int u), .val (.int w), .val (.int (1 : Int32)), .val (.int (0 : Int32)), .unset, .unset, .unset, .unset, .unset, .unset, .unset, .unset, .unset, .unset, .unset, .unset] [(.int z116)])) ?_
      intro z116 hz116
      have tz116 : z116.toInt = z115.toInt + (1 : Int) := n_iadd hz116 rfl rfl (by omega)
      refine istore P at_26 (l' := #[.val (.int u), .val (.int w), .val (.int (1 : Int32)), .val (.int (0 : Int32)), .val (.int z116), .unset, .unset, .unset, .unset, .unset, .unset, .unset, .unset, .unset, .unset, .unset]) rfl (n := 28) rfl ?_
      refine iloadN P at_28 rfl (n := 29) rfl ?_
      refine iload P at_29 rfl (n := 31) rfl ?_
      refine iadd P at_31 (n := 32) rfl ?_
      refine iconst P at_32 (x := (3 : Int32)) rfl (n := 33) rfl ?_
      refine irem P at_33 (by decide) (n := 34) rfl ?_
      refine istore P at_34 (l' := #[.val (.int u), .val (.int w), .val (.int (1 : Int32)), .val (.int (0 : Int32)), .val (.int z116), .val (.int (((1 : Int32) + z116) % (3 : Int32))), .unset, .unset, .unset, .unset, .unset, .unset, .unset, .unset, .unset, .unset]) rfl (n := 36) rfl ?_
      refine iconst P at_36 (x := (3 : Int32)) rfl (n := 37) rfl ?_
      refine iloadN P at_37 rfl (n := 38) rfl ?_
      refine isub P at_38 (n := 39) rfl ?_
      rw [show ((3 : Int32) - (1 : Int32)) = (2 : Int32) from by decide]
      refine iload P at_39 rfl (n := 41) rfl ?_
      refine isub P at_41 (n := 42) rfl ?_
      refine istore P at_42 (l' := #[.val (.int u), .val (.int w), .val (.int (1 : Int32)), .val (.int (0 : Int32)), .val (.int z116), .val (.int (((1 : Int32) + z116) % (3 : Int32))), .val (.int ((2 : Int32) - (((1 : Int32) + z116) % (3 : Int32)))), .unset, .unset, .unset, .unset, .unset, .unset, .unset, .unset, .unset]) rfl (n := 44) rfl ?_
      refine iloadN P at_44 rfl (n := 45) rfl ?_
      refine iconst P at_45 (x := (1 : Int32)) rfl (n := 46) rfl ?_
      refine iadd P at_46 (n := 47) rfl ?_
      rw [show ((1 : Int32) + (1 : Int32)) = (2 : Int32) from by decide]
      refine istore P at_47 (l' := #[.val (.int u), .val (.int w), .val (.int (1 : Int32)), .val (.int (0 : Int32)), .val (.int z116), .val (.int (((1 : Int32) + z116) % (3 : Int32))), .val (.int ((2 : Int32) - (((1 : Int32) + z116) % (3 : Int32)))), .val (.int (2 : Int32)), .unset, .unset, .unset, .unset, .unset, .unset, .unset, .unset]) rfl (n := 49) rfl ?_
      refine iload P at_49 rfl (n := 51) rfl ?_
      refine iconst P at_51 (x := (1 : Int32)) rfl (n := 52) rfl ?_
      refine iadd P at_52 (n := 53) rfl ?_
      refine istore P at_53 (l' := #[.val (.int u), .val (.int w), .val (.int (1 : Int32)), .val (.int (0 : Int32)), .val (.int z116), .val (.int (((1 : Int32) + z116) % (3 : Int32))), .val (.int ((2 : Int32) - (((1 : Int32) + z116) % (3 : Int32)))), .val (.int (2 : Int32)), .val (.int ((((1 : Int32) + z116) % (3 : Int32)) + (1 : Int32))), .unset, .unset, .unset, .unset, .unset, .unset, .unset]) rfl (n := 55) rfl ?_
      refine iload P at_55 rfl (n := 57) rfl ?_
      refine iconst P at_57 (x := (1 : Int32)) rfl (n := 58) rfl ?_
      refine iadd P at_58 (n := 59) rfl ?_
      refine istore P at_59 (l' := #[.val (.int u), .val (.int w), .val (.int (1 : Int32)), .val (.int (0 : Int32)), .val (.int z116), .val (.int (((1 : Int32) + z116) % (3 : Int32))), .val (.int ((2 : Int32) - (((1 : Int32) + z116) % (3 : Int32)))), .val (.int (2 : Int32)), .val (.int ((((1 : Int32) + z116) % (3 : Int32)) + (1 : Int32))), .val (.int (((2 : Int32) - (((1 : Int32) + z116) % (3 : Int32))) + (1 : Int32))), .unset, .unset, .unset, .unset, .unset, .unset]) rfl (n := 61) rfl ?_
      refine iloadN P at_61 rfl (n := 62) rfl ?_
      refine if0_ne P at_62 (n' := 69) (n := 65) (by decide) rfl (fun hc62 => ?_) (fun hc62 => ?_)
      · -- pc 62 taken
        replace hc62 : ¬ (1 : Int) = (0 : Int) := hc62
        refine iconst P at_69 (x := (1 : Int32)) rfl (n := 70) rfl ?_
        refine istore P at_70 (l' := #[.val (.int u), .val (.int w), .val (.int (1 : Int32)), .val (.int (0 : Int32)), .val (.int z116), .val (.int (((1 : Int32) + z116) % (3 : Int32))), .val (.int ((2 : Int32) - (((1 : Int32) + z116) % (3 : Int32)))), .val (.int (2 : Int32)), .val (.int ((((1 : Int32) + z116) % (3 : Int32)) + (1 : Int32))), .val (.int (((2 : Int32) - (((1 : Int32) + z116) % (3 : Int32))) + (1 : Int32))), .val (.int (1 : Int32)), .unset, .unset, .unset, .unset, .unset]) rfl (n := 72) rfl ?_
        refine iloadN P at_72 rfl (n := 73) rfl ?_
        refine iconst P at_73 (x := (2 : Int32)) rfl (n := 74) rfl ?_
        refine icmp_ne P at_74 (n' := 81) (n := 77) (by decide) rfl (fun hc74 => ?_) (fun hc74 => ?_)
        · -- pc 74 taken
          replace hc74 : ¬ (1 : Int) = (2 : Int) := hc74
          refine iconst P at_81 (x := (3 : Int32)) rfl (n := 82) rfl ?_
          refine istore P at_82 (l' := #[.val (.int u), .val (.int w), .val (.int (1 : Int32)), .val (.int (0 : Int32)), .val (.int z116), .val (.int (((1 : Int32) + z116) % (3 : Int32))), .val (.int ((2 : Int32) - (((1 : Int32) + z116) % (3 : Int32)))), .val (.int (2 : Int32)), .val (.int ((((1 : Int32) + z116) % (3 : Int32)) + (1 : Int32))), .val (.int (((2 : Int32) - (((1 : Int32) + z116) % (3 : Int32))) + (1 : Int32))), .val (.int (1 : Int32)), .val (.int (3 : Int32)), .unset, .unset, .unset, .unset]) rfl (n := 84) rfl ?_
          refine newO P at_84 (hw _ (List.mem_of_getElem? (i := 1) rfl)) (hw _ (List.mem_of_getElem? (i := 2) rfl)) (hw _ (List.mem_of_getElem? (i := 3) rfl)) (by decide) (by decide) (n := 87) rfl ?_
          intro T h118 b117 P X119 g120 lo_b117 E_b117 D_b117
          have F_b117_ids := D_b117 (Or.inl (hw _ (List.mem_of_getElem? (i := 12) rfl))) (ty := (.array .long)) (by decide)
          have F_b117_ordinals := D_b117 (Or.inl (hw _ (List.mem_of_getElem? (i := 15) rfl))) (ty := (.array .int)) (by decide)
          have F_b117_firstSeconds := D_b117 (Or.inl (hw _ (List.mem_of_getElem? (i := 17) rfl))) (ty := (.array .long)) (by decide)
          have F_b117_firstNanos := D_b117 (Or.inl (hw _ (List.mem_of_getElem? (i := 19) rfl))) (ty := (.array .int)) (by decide)
          have F_b117_lastSeconds := D_b117 (Or.inl (hw _ (List.mem_of_getElem? (i := 21) rfl))) (ty := (.array .long)) (by decide)
          have F_b117_lastNanos := D_b117 (Or.inl (hw _ (List.mem_of_getElem? (i := 23) rfl))) (ty := (.array .int)) (by decide)
          have F_b117_records := D_b117 (Or.inl (hw _ (List.mem_of_getElem? (i := 25) rfl))) (ty := (.array .long)) (by decide)
          have F_b117_entities := D_b117 (Or.inl (hw _ (List.mem_of_getElem? (i := 27) rfl))) (ty := (.array .int)) (by decide)
          have F_b117_others := D_b117 (Or.inl (hw _ (List.mem_of_getElem? (i := 31) rfl))) (ty := (.array (.array .int))) (by decide)
          have F_b117_otherCounts := D_b117 (Or.inl (hw _ (List.mem_of_getElem? (i := 33) rfl))) (ty := (.array .int)) (by decide)
          have F_b117_earlier := D_b117 (Or.inl (hw _ (List.mem_of_getElem? (i := 35) rfl))) (ty := (.array .int)) (by decide)
          have F_b117_later := D_b117 (Or.inl (hw _ (List.mem_of_getElem? (i := 37) rfl))) (ty := (.array .int)) (by decide)
          have F_b117_unused := D_b117 (Or.inl (hw _ (List.mem_of_getElem? (i := 39) rfl))) (ty := .int) (by decide)
          have F_b117_used := D_b117 (Or.inl (hw _ (List.mem_of_getElem? (i := 41) rfl))) (ty := .int) (by decide)
          refine dup P at_87 rfl (n := 88) rfl ?_
          refine callN P at_88 (a := b117) (argsL := []) (rest := [(.ref b117)]) (c_new l Z a0 hw b117 h118 n0 P.low E_b117 F_b117_unused F_b117_used F_b117_ids F_b117_ordinals F_b117_firstSeconds F_b117_firstNanos F_b117_lastSeconds F_b117_lastNanos F_b117_records F_b117_entities F_b117_others F_b117_otherCounts F_b117_earlier F_b117_later lo_b117) rfl (hw _ (List.mem_of_getElem? (i := 4) rfl)) (hw _ (List.mem_of_getElem? (i := 5) rfl)) (hw _ (List.mem_of_getElem? (i := 3) rfl)) (hw _ (List.mem_of_getElem? (i := 6) rfl)) (by decide) pd_1 rfl rfl rfl ⟨by decide, Nat.le_of_ble_eq_true rfl, by decide, by decide⟩ (n := 91) rfl ?_
          rintro T h121 v P ⟨rfl, O122⟩
          show Jvm.Own.Ends p e below s room_1 n0 (fun v _ => v = some (.int 1)) T (mkF m 91 #[.val (.int u), .val (.int w), .val (.int (1 : Int32)), .val (.int (0 : Int32)), .val (.int z116), .val (.int (((1 : Int32) + z116) % (3 : Int32))), .val (.int ((2 : Int32) - (((1 : Int32) + z116) % (3 : Int32)))), .val (.int (2 : Int32)), .val (.int ((((1 : Int32) + z116) % (3 : Int32)) + (1 : Int32))), .val (.int (((2 : Int32) - (((1 : Int32) + z116) % (3 : Int32))) + (1 : Int32))), .val (.int (1 : Int32)), .val (.int (3 : Int32)), .unset, .unset, .unset, .unset] [(.ref b117)])
          rw [own_tab0] at O122
          replace O122 : own_OS Z n0 h121 b117 (0 : Int32) (1 : Int32) (own_tab [0, 0, 0, 0, 0, 0]) (own_tab [0, 0, 0, 0, 0, 0]) := O122
          refine astore P at_91 rfl (l' := #[.val (.int u), .val (.int w), .val (.int (1 : Int32)), .val (.int (0 : Int32)), .val (.int z116), .val (.int (((1 : Int32) + z116) % (3 : Int32))), .val (.int ((2 : Int32) - (((1 : Int32) + z116) % (3 : Int32)))), .val (.int (2 : Int32)), .val (.int ((((1 : Int32) + z116) % (3 : Int32)) + (1 : Int32))), .val (.int (((2 : Int32) - (((1 : Int32) + z116) % (3 : Int32))) + (1 : Int32))), .val (.int (1 : Int32)), .val (.int (3 : Int32)), .val (.ref b117), .unset, .unset, .unset]) rfl (n := 93) rfl ?_
          refine aload P at_93 rfl rfl (n := 95) rfl ?_
          refine ldc2J P at_95 (hw _ (List.mem_of_getElem? (i := 42) rfl)) (n := 98) rfl ?_
          refine iconst P at_98 (x := (1 : Int32)) rfl (n := 99) rfl ?_
          refine lconst P at_99 (x := (0 : Int64)) rfl (n := 100) rfl ?_
          refine iconst P at_100 (x := (0 : Int32)) rfl (n := 101) rfl ?_
          refine iconst P at_101 (x := (1 : Int32)) rfl (n := 102) rfl ?_
          refine callV P at_102 (a := b117) (argsL := [(.long (10 : Int64)), (.int (1 : Int32)), (.long (0 : Int64)), (.int (0 : Int32)), (.int (1 : Int32))]) (rest := []) (c_open l Z a0 hw b117 (10 : Int64) (1 : Int32) (0 : Int64) (0 : Int32) (1 : Int32) (0 : Int32) (1 : Int32) (own_tab [0, 0, 0, 0, 0, 0]) (own_tab [0, 0, 0, 0, 0, 0]) h121 n0 P.low O122 (by decide) (by decide) (by decide)) (own_OS_exa O122) (hw _ (List.mem_of_getElem? (i := 43) rfl)) (hw _ (List.mem_of_getElem? (i := 44) rfl)) (notFace_of_selects (args := #[]) (mvT P.hZ (hw _ (List.mem_of_getElem? (i := 46) rfl)))) (hw _ (List.mem_of_getElem? (i := 46) rfl)) (hw _ (List.mem_of_getElem? (i := 45) rfl)) (hw _ (List.mem_of_getElem? (i := 3) rfl)) (hw _ (List.mem_of_getElem? (i := 47) rfl)) (by decide) pd_2 rfl rfl rfl ⟨by decide, Nat.le_of_ble_eq_true rfl, by decide, by decide⟩ (n := 105) rfl ?_
          rintro T h123 v P hq
          obtain ⟨rfl, O124⟩ := hq.1 (by decide)
          show Jvm.Own.Ends p e below s room_1 n0 (fun v _ => v = some (.int 1)) T (mkF m 105 #[.val (.int u), .val (.int w), .val (.int (1 : Int32)), .val (.int (0 : Int32)), .val (.int z116), .val (.int (((1 : Int32) + z116) % (3 : Int32))), .val (.int ((2 : Int32) - (((1 : Int32) + z116) % (3 : Int32)))), .val (.int (2 : Int32)), .val (.int ((((1 : Int32) + z116) % (3 : Int32)) + (1 : Int32))), .val (.int (((2 : Int32) - (((1 : Int32) + z116) % (3 : Int32))) + (1 : Int32))), .val (.int (1 : Int32)), .val (.int (3 : Int32)), .val (.ref b117), .unset, .unset, .unset] [(.int (1 : Int32))])
          have t125 : (ovr (ovr (own_tab [0, 0, 0, 0, 0, 0]) (1 : Int32).toInt.toNat ((own_tab [0, 0, 0, 0, 0, 0]) 0)) 0 (1 : Int32)) = own_tab [1, 0, 0, 0, 0, 0] := by rw [own_tab_set [0, 0, 0, 0, 0, 0] (1 : Int32).toInt.toNat ((own_tab [0, 0, 0, 0, 0, 0]) 0) (by decide), own_tab_set ([0, 0, 0, 0, 0, 0].set (1 : Int32).toInt.toNat ((own_tab [0, 0, 0, 0, 0, 0]) 0)) 0 (1 : Int32) (by decide)]; rfl
          rw [t125] at O124
          have t126 : (ovr (ovr (own_tab [0, 0, 0, 0, 0, 0]) (1 : Int32).toInt.toNat 0) ((own_tab [0, 0, 0, 0, 0, 0]) 0).toInt.toNat (1 : Int32)) = own_tab [1, 0, 0, 0, 0, 0] := by rw [own_tab_set [0, 0, 0, 0, 0, 0] (1 : Int32).toInt.toNat 0 (by decide), own_tab_set ([0, 0, 0, 0, 0, 0].set (1 : Int32).toInt.toNat 0) ((own_tab [0, 0, 0, 0, 0, 0]) 0).toInt.toNat (1 : Int32) (by decide)]; rfl
          rw [t126] at O124
          replace O124 : own_OS Z n0 h123 b117 (0 : Int32) (2 : Int32) (own_tab [1, 0, 0, 0, 0, 0]) (own_tab [1, 0, 0, 0, 0, 0]) := O124
          refine istore P at_105 (l' := #[.val (.int u), .val (.int w), .val (.int (1 : Int32)), .val (.int (0 : Int32)), .val (.int z116), .val (.int (((1 : Int32) + z116) % (3 : Int32))), .val (.int ((2 : Int32) - (((1 : Int32) + z116) % (3 : Int32)))), .val (.int (2 : Int32)), .val (.int ((((1 : Int32) + z116) % (3 : Int32)) + (1 : Int32))), .val (.int (((2 : Int32) - (((1 : Int32) + z116) % (3 : Int32))) + (1 : Int32))), .val (.int (1 : Int32)), .val (.int (3 : Int32)), .val (.ref b117), .val (.int (1 : Int32)), .unset, .unset]) rfl (n := 107) rfl ?_
          refine aload P at_107 rfl rfl (n := 109) rfl ?_
          refine ldc2J P at_109 (hw _ (List.mem_of_getElem? (i := 52) rfl)) (n := 112) rfl ?_
          refine iconst P at_112 (x := (1 : Int32)) rfl (n := 113) rfl ?_
          refine lconst P at_113 (x := (1 : Int64)) rfl (n := 114) rfl ?_
          refine iconst P at_114 (x := (0 : Int32)) rfl (n := 115) rfl ?_
          refine iconst P at_115 (x := (2 : Int32)) rfl (n := 116) rfl ?_
          refine callV P at_116 (a := b117) (argsL := [(.long (20 : Int64)), (.int (1 : Int32)), (.long (1 : Int64)), (.int (0 : Int32)), (.int (2 : Int32))]) (rest := []) (c_open l Z a0 hw b117 (20 : Int64) (1 : Int32) (1 : Int64) (0 : Int32) (2 : Int32) (0 : Int32) (2 : Int32) (own_tab [1, 0, 0, 0, 0, 0]) (own_tab [1, 0, 0, 0, 0, 0]) h123 n0 P.low O124 (by decide) (by decide) (by decide)) (own_OS_exa O124) (hw _ (List.mem_of_getElem? (i := 43) rfl)) (hw _ (List.mem_of_getElem? (i := 44) rfl)) (notFace_of_selects (args := #[]) (mvT P.hZ (hw _ (List.mem_of_getElem? (i := 46) rfl)))) (hw _ (List.mem_of_getElem? (i := 46) rfl)) (hw _ (List.mem_of_getElem? (i := 45) rfl)) (hw _ (List.mem_of_getElem? (i := 3) rfl)) (hw _ (List.mem_of_getElem? (i := 47) rfl)) (by decide) pd_2 rfl rfl rfl ⟨by decide, Nat.le_of_ble_eq_true rfl, by decide, by decide⟩ (n := 119) rfl ?_
          rintro T h127 v P hq
          obtain ⟨rfl, O128⟩ := hq.1 (by decide)
          show Jvm.Own.Ends p e below s room_1 n0 (fun v _ => v = some (.int 1)) T (mkF m 119 #[.val (.int u), .val (.int w), .val (.int (1 : Int32)), .val (.int (0 : Int32)), .val (.int z116), .val (.int (((1 : Int32) + z116) % (3 : Int32))), .val (.int ((2 : Int32) - (((1 : Int32) + z116) % (3 : Int32)))), .val (.int (2 : Int32)), .val (.int ((((1 : Int32) + z116) % (3 : Int32)) + (1 : Int32))), .val (.int (((2 : Int32) - (((1 : Int32) + z116) % (3 : Int32))) + (1 : Int32))), .val (.int (1 : Int32)), .val (.int (3 : Int32)), .val (.ref b117), .val (.int (1 : Int32)), .unset, .unset] [(.int (2 : Int32))])
          have t129 : (ovr (ovr (own_tab [1, 0, 0, 0, 0, 0]) (2 : Int32).toInt.toNat ((own_tab [1, 0, 0, 0, 0, 0]) 0)) 0 (2 : Int32)) = own_tab [2, 0, 1, 0, 0, 0] := by rw [own_tab_set [1, 0, 0, 0, 0, 0] (2 : Int32).toInt.toNat ((own_tab [1, 0, 0, 0, 0, 0]) 0) (by decide), own_tab_set ([1, 0, 0, 0, 0, 0].set (2 : Int32).toInt.toNat ((own_tab [1, 0, 0, 0, 0, 0]) 0)) 0 (2 : Int32) (by decide)]; rfl
          rw [t129] at O128
          have t130 : (ovr (ovr (own_tab [1, 0, 0, 0, 0, 0]) (2 : Int32).toInt.toNat 0) ((own_tab [1, 0, 0, 0, 0, 0]) 0).toInt.toNat (2 : Int32)) = own_tab [1, 2, 0, 0, 0, 0] := by rw [own_tab_set [1, 0, 0, 0, 0, 0] (2 : Int32).toInt.toNat 0 (by decide), own_tab_set ([1, 0, 0, 0, 0, 0].set (2 : Int32).toInt.toNat 0) ((own_tab [1, 0, 0, 0, 0, 0]) 0).toInt.toNat (2 : Int32) (by decide)]; rfl
          rw [t130] at O128
          replace O128 : own_OS Z n0 h127 b117 (0 : Int32) (3 : Int32) (own_tab [2, 0, 1, 0, 0, 0]) (own_tab [1, 2, 0, 0, 0, 0]) := O128
          refine istore P at_119 (l' := #[.val (.int u), .val (.int w), .val (.int (1 : Int32)), .val (.int (0 : Int32)), .val (.int z116), .val (.int (((1 : Int32) + z116) % (3 : Int32))), .val (.int ((2 : Int32) - (((1 : Int32) + z116) % (3 : Int32)))), .val (.int (2 : Int32)), .val (.int ((((1 : Int32) + z116) % (3 : Int32)) + (1 : Int32))), .val (.int (((2 : Int32) - (((1 : Int32) + z116) % (3 : Int32))) + (1 : Int32))), .val (.int (1 : Int32)), .val (.int (3 : Int32)), .val (.ref b117), .val (.int (1 : Int32)), .val (.int (2 : Int32)), .unset]) rfl (n := 121) rfl ?_
          refine aload P at_121 rfl rfl (n := 123) rfl ?_
          refine ldc2J P at_123 (hw _ (List.mem_of_getElem? (i := 53) rfl)) (n := 126) rfl ?_
          refine iconst P at_126 (x := (1 : Int32)) rfl (n := 127) rfl ?_
          refine ldc2J P at_127 (hw _ (List.mem_of_getElem? (i := 54) rfl)) (n := 130) rfl ?_
          refine iconst P at_130 (x := (0 : Int32)) rfl (n := 131) rfl ?_
          refine iconst P at_131 (x := (3 : Int32)) rfl (n := 132) rfl ?_
          refine callV P at_132 (a := b117) (argsL := [(.long (30 : Int64)), (.int (1 : Int32)), (.long (2 : Int64)), (.int (0 : Int32)), (.int (3 : Int32))]) (rest := []) (c_open l Z a0 hw b117 (30 : Int64) (1 : Int32) (2 : Int64) (0 : Int32) (3 : Int32) (0 : Int32) (3 : Int32) (own_tab [2, 0, 1, 0, 0, 0]) (own_tab [1, 2, 0, 0, 0, 0]) h127 n0 P.low O128 (by decide) (by decide) (by decide)) (own_OS_exa O128) (hw _ (List.mem_of_getElem? (i := 43) rfl)) (hw _ (List.mem_of_getElem? (i := 44) rfl)) (notFace_of_selects (args := #[]) (mvT P.hZ (hw _ (List.mem_of_getElem? (i := 46) rfl)))) (hw _ (List.mem_of_getElem? (i := 46) rfl)) (hw _ (List.mem_of_getElem? (i := 45) rfl)) (hw _ (List.mem_of_getElem? (i := 3) rfl)) (hw _ (List.mem_of_getElem? (i := 47) rfl)) (by decide) pd_2 rfl rfl rfl ⟨by decide, Nat.le_of_ble_eq_true rfl, by decide, by decide⟩ (n := 135) rfl ?_
          rintro T h131 v P hq
          obtain ⟨rfl, O132⟩ := hq.1 (by decide)
          show Jvm.Own.Ends p e below s room_1 n0 (fun v _ => v = some (.int 1)) T (mkF m 135 #[.val (.int u), .val (.int w), .val (.int (1 : Int32)), .val (.int (0 : Int32)), .val (.int z116), .val (.int (((1 : Int32) + z116) % (3 : Int32))), .val (.int ((2 : Int32) - (((1 : Int32) + z116) % (3 : Int32)))), .val (.int (2 : Int32)), .val (.int ((((1 : Int32) + z116) % (3 : Int32)) + (1 : Int32))), .val (.int (((2 : Int32) - (((1 : Int32) + z116) % (3 : Int32))) + (1 : Int32))), .val (.int (1 : Int32)), .val (.int (3 : Int32)), .val (.ref b117), .val (.int (1 : Int32)), .val (.int (2 : Int32)), .unset] [(.int (3 : Int32))])
          have t133 : (ovr (ovr (own_tab [2, 0, 1, 0, 0, 0]) (3 : Int32).toInt.toNat ((own_tab [2, 0, 1, 0, 0, 0]) 0)) 0 (3 : Int32)) = own_tab [3, 0, 1, 2, 0, 0] := by rw [own_tab_set [2, 0, 1, 0, 0, 0] (3 : Int32).toInt.toNat ((own_tab [2, 0, 1, 0, 0, 0]) 0) (by decide), own_tab_set ([2, 0, 1, 0, 0, 0].set (3 : Int32).toInt.toNat ((own_tab [2, 0, 1, 0, 0, 0]) 0)) 0 (3 : Int32) (by decide)]; rfl
          rw [t133] at O132
          have t134 : (ovr (ovr (own_tab [1, 2, 0, 0, 0, 0]) (3 : Int32).toInt.toNat 0) ((own_tab [2, 0, 1, 0, 0, 0]) 0).toInt.toNat (3 : Int32)) = own_tab [1, 2, 3, 0, 0, 0] := by rw [own_tab_set [1, 2, 0, 0, 0, 0] (3 : Int32).toInt.toNat 0 (by decide), own_tab_set ([1, 2, 0, 0, 0, 0].set (3 : Int32).toInt.toNat 0) ((own_tab [2, 0, 1, 0, 0, 0]) 0).toInt.toNat (3 : Int32) (by decide)]; rfl
          rw [t134] at O132
          replace O132 : own_OS Z n0 h131 b117 (0 : Int32) (4 : Int32) (own_tab [3, 0, 1, 2, 0, 0]) (own_tab [1, 2, 3, 0, 0, 0]) := O132
          refine istore P at_135 (l' := #[.val (.int u), .val (.int w), .val (.int (1 : Int32)), .val (.int (0 : Int32)), .val (.int z116), .val (.int (((1 : Int32) + z116) % (3 : Int32))), .val (.int ((2 : Int32) - (((1 : Int32) + z116) % (3 : Int32)))), .val (.int (2 : Int32)), .val (.int ((((1 : Int32) + z116) % (3 : Int32)) + (1 : Int32))), .val (.int (((2 : Int32) - (((1 : Int32) + z116) % (3 : Int32))) + (1 : Int32))), .val (.int (1 : Int32)), .val (.int (3 : Int32)), .val (.ref b117), .val (.int (1 : Int32)), .val (.int (2 : Int32)), .val (.int (3 : Int32))]) rfl (n := 137) rfl ?_
          refine iload P at_137 rfl (n := 139) rfl ?_
          refine iconst P at_139 (x := (1 : Int32)) rfl (n := 140) rfl ?_
          refine icmp_ne P at_140 (n' := 155) (n := 143) (by decide) rfl (fun hc140 => ?_) (fun hc140 => ?_)
          · -- pc 140 taken
            replace hc140 : ¬ (1 : Int) = (1 : Int) := hc140
            exact absurd hc140 (by decide)
          · -- pc 140 not taken
            replace hc140 : (1 : Int) = (1 : Int) := hc140
            refine iload P at_143 rfl (n := 145) rfl ?_
            refine iconst P at_145 (x := (2 : Int32)) rfl (n := 146) rfl ?_
            refine icmp_ne P at_146 (n' := 155) (n := 149) (by decide) rfl (fun hc146 => ?_) (fun hc146 => ?_)
            · -- pc 146 taken
              replace hc146 : ¬ (2 : Int) = (2 : Int) := hc146
              exact absurd hc146 (by decide)
            · -- pc 146 not taken
              replace hc146 : (2 : Int) = (2 : Int) := hc146
              refine iload P at_149 rfl (n := 151) rfl ?_
              refine iconst P at_151 (x := (3 : Int32)) rfl (n := 152) rfl ?_
              refine icmp_eq P at_152 (n' := 157) (n := 155) (by decide) rfl (fun hc152 => ?_) (fun hc152 => ?_)
              · -- pc 152 taken
                replace hc152 : (3 : Int) = (3 : Int) := hc152
                refine aload P at_157 rfl rfl (n := 159) rfl ?_
                refine iload P at_159 rfl (n := 161) rfl ?_
                refine callV P at_161 (a := b117) (argsL := [(.int (2 : Int32))]) (rest := []) (c_end l Z a0 hw b117 (2 : Int32) (0 : Int32) (4 : Int32) (own_tab [3, 0, 1, 2, 0, 0]) (own_tab [1, 2, 3, 0, 0, 0]) h131 n0 P.low O132 (by decide) (by decide) (by decide) (by decide)) (own_OS_exa O132) (hw _ (List.mem_of_getElem? (i := 55) rfl)) (hw _ (List.mem_of_getElem? (i := 56) rfl)) (notFace_of_selects (args := #[]) (mvT P.hZ (hw _ (List.mem_of_getElem? (i := 58) rfl)))) (hw _ (List.mem_of_getElem? (i := 58) rfl)) (hw _ (List.mem_of_getElem? (i := 57) rfl)) (hw _ (List.mem_of_getElem? (i := 3) rfl)) (hw _ (List.mem_of_getElem? (i := 59) rfl)) (by decide) pd_0 rfl rfl rfl ⟨by decide, Nat.le_of_ble_eq_true rfl, by decide, by decide⟩ (n := 164) rfl ?_
                rintro T h135 v P ⟨rfl, O136⟩
                show Jvm.Own.Ends p e below s room_1 n0 (fun v _ => v = some (.int 1)) T (mkF m 164 #[.val (.int u), .val (.int w), .val (.int (1 : Int32)), .val (.int (0 : Int32)), .val (.int z116), .val (.int (((1 : Int32) + z116) % (3 : Int32))), .val (.int ((2 : Int32) - (((1 : Int32) + z116) % (3 : Int32)))), .val (.int (2 : Int32)), .val (.int ((((1 : Int32) + z116) % (3 : Int32)) + (1 : Int32))), .val (.int (((2 : Int32) - (((1 : Int32) + z116) % (3 : Int32))) + (1 : Int32))), .val (.int (1 : Int32)), .val (.int (3 : Int32)), .val (.ref b117), .val (.int (1 : Int32)), .val (.int (2 : Int32)), .val (.int (3 : Int32))] [])
                have t137 : (ovr (own_tab [1, 2, 3, 0, 0, 0]) ((own_tab [3, 0, 1, 2, 0, 0]) (2 : Int32).toInt.toNat).toInt.toNat ((own_tab [1, 2, 3, 0, 0, 0]) (2 : Int32).toInt.toNat)) = own_tab [1, 3, 3, 0, 0, 0] := by rw [own_tab_set [1, 2, 3, 0, 0, 0] ((own_tab [3, 0, 1, 2, 0, 0]) (2 : Int32).toInt.toNat).toInt.toNat ((own_tab [1, 2, 3, 0, 0, 0]) (2 : Int32).toInt.toNat) (by decide)]; rfl
                rw [t137] at O136
                have t138 : (ovr (own_tab [1, 3, 3, 0, 0, 0]) (2 : Int32).toInt.toNat (0 : Int32)) = own_tab [1, 3, 0, 0, 0, 0] := by rw [own_tab_set [1, 3, 3, 0, 0, 0] (2 : Int32).toInt.toNat (0 : Int32) (by decide)]; rfl
                rw [t138] at O136
                have t139 : (ovr (own_tab [3, 0, 1, 2, 0, 0]) ((own_tab [1, 3, 3, 0, 0, 0]) (2 : Int32).toInt.toNat).toInt.toNat ((own_tab [3, 0, 1, 2, 0, 0]) (2 : Int32).toInt.toNat)) = own_tab [3, 0, 1, 1, 0, 0] := by rw [own_tab_set [3, 0, 1, 2, 0, 0] ((own_tab [1, 3, 3, 0, 0, 0]) (2 : Int32).toInt.toNat).toInt.toNat ((own_tab [3, 0, 1, 2, 0, 0]) (2 : Int32).toInt.toNat) (by decide)]; rfl
                rw [t139] at O136
                replace O136 : own_OS Z n0 h135 b117 (2 : Int32) (4 : Int32) (own_tab [3, 0, 1, 1, 0, 0]) (own_tab [1, 3, 0, 0, 0, 0]) := O136
                refine iloadN P at_164 rfl (n := 165) rfl ?_
                refine if0_ne P at_165 (n' := 253) (n := 168) (by decide) rfl (fun hc165 => ?_) (fun hc165 => ?_)
                · -- pc 165 taken
                  replace hc165 : ¬ (0 : Int) = (0 : Int) := hc165
                  exact absurd hc165 (by decide)
                · -- pc 165 not taken
                  replace hc165 : (0 : Int) = (0 : Int) := hc165
                  refine aload P at_168 rfl rfl (n := 170) rfl ?_
                  refine callV P at_170 (a := b117) (argsL := []) (rest := []) (c_first l Z a0 hw b117 (2 : Int32) (4 : Int32) (own_tab [3, 0, 1, 1, 0, 0]) (own_tab [1, 3, 0, 0, 0, 0]) h135 n0 P.low O136) (own_OS_exa O136) (hw _ (List.mem_of_getElem? (i := 64) rfl)) (hw _ (List.mem_of_getElem? (i := 65) rfl)) (notFace_of_selects (args := #[]) (mvT P.hZ (hw _ (List.mem_of_getElem? (i := 67) rfl)))) (hw _ (List.mem_of_getElem? (i := 67) rfl)) (hw _ (List.mem_of_getElem? (i := 66) rfl)) (hw _ (List.mem_of_getElem? (i := 3) rfl)) (hw _ (List.mem_of_getElem? (i := 68) rfl)) (by decide) pd_3 rfl rfl rfl ⟨by decide, Nat.le_of_ble_eq_true rfl, by decide, by decide⟩ (n := 173) rfl (Ret.on ?_)
                  intro T P
                  rw [show (own_tab [1, 3, 0, 0, 0, 0]) 0 = (1 : Int32) from rfl]
                  refine iload P at_173 rfl (n := 175) rfl ?_
                  refine icmp_eq P at_175 (n' := 180) (n := 178) (by decide) rfl (fun hc175 => ?_) (fun hc175 => ?_)
                  · -- pc 175 taken
                    replace hc175 : (1 : Int) = (1 : Int) := hc175
                    refine aload P at_180 rfl rfl (n := 182) rfl ?_
                    refine iload P at_182 rfl (n := 184) rfl ?_
                    refine callV P at_184 (a := b117) (argsL := [(.int (1 : Int32))]) (rest := []) (c_after l Z a0 hw b117 (1 : Int32) (2 : Int32) (4 : Int32) (own_tab [3, 0, 1, 1, 0, 0]) (own_tab [1, 3, 0, 0, 0, 0]) h135 n0 P.low O136 (by decide)) (own_OS_exa O136) (hw _ (List.mem_of_getElem? (i := 69) rfl)) (hw _ (List.mem_of_getElem? (i := 70) rfl)) (notFace_of_selects (args := #[]) (mvT P.hZ (hw _ (List.mem_of_getElem? (i := 72) rfl)))) (hw _ (List.mem_of_getElem? (i := 72) rfl)) (hw _ (List.mem_of_getElem? (i := 71) rfl)) (hw _ (List.mem_of_getElem? (i := 3) rfl)) (hw _ (List.mem_of_getElem? (i := 73) rfl)) (by decide) pd_4 rfl rfl rfl ⟨by decide, Nat.le_of_ble_eq_true rfl, by decide, by decide⟩ (n := 187) rfl (Ret.on ?_)
                    intro T P
                    rw [show (own_tab [1, 3, 0, 0, 0, 0]) (1 : Int32).toInt.toNat = (3 : Int32) from rfl]
                    refine iload P at_187 rfl (n := 189) rfl ?_
                    refine icmp_eq P at_189 (n' := 194) (n := 192) (by decide) rfl (fun hc189 => ?_) (fun hc189 => ?_)
                    · -- pc 189 taken
                      replace hc189 : (3 : Int) = (3 : Int) := hc189
                      refine aload P at_194 rfl rfl (n := 196) rfl ?_
                      refine ldc2J P at_196 (hw _ (List.mem_of_getElem? (i := 74) rfl)) (n := 199) rfl ?_
                      refine iconst P at_199 (x := (1 : Int32)) rfl (n := 200) rfl ?_
                      refine ldc2J P at_200 (hw _ (List.mem_of_getElem? (i := 75) rfl)) (n := 203) rfl ?_
                      refine iconst P at_203 (x := (0 : Int32)) rfl (n := 204) rfl ?_
                      refine iconst P at_204 (x := (4 : Int32)) rfl (n := 205) rfl ?_
                      refine callV P at_205 (a := b117) (argsL := [(.long (40 : Int64)), (.int (1 : Int32)), (.long (3 : Int64)), (.int (0 : Int32)), (.int (4 : Int32))]) (rest := []) (c_open l Z a0 hw b117 (40 : Int64) (1 : Int32) (3 : Int64) (0 : Int32) (4 : Int32) (2 : Int32) (4 : Int32) (own_tab [3, 0, 1, 1, 0, 0]) (own_tab [1, 3, 0, 0, 0, 0]) h135 n0 P.low O136 (by decide) (by decide) (by decide)) (own_OS_exa O136) (hw _ (List.mem_of_getElem? (i := 43) rfl)) (hw _ (List.mem_of_getElem? (i := 44) rfl)) (notFace_of_selects (args := #[]) (mvT P.hZ (hw _ (List.mem_of_getElem? (i := 46) rfl)))) (hw _ (List.mem_of_getElem? (i := 46) rfl)) (hw _ (List.mem_of_getElem? (i := 45) rfl)) (hw _ (List.mem_of_getElem? (i := 3) rfl)) (hw _ (List.mem_of_getElem? (i := 47) rfl)) (by decide) pd_2 rfl rfl rfl ⟨by decide, Nat.le_of_ble_eq_true rfl, by decide, by decide⟩ (n := 208) rfl ?_
                      rintro T h140 v P hq
                      obtain ⟨rfl, O141⟩ := hq.2 (by decide)
                      show Jvm.Own.Ends p e below s room_1 n0 (fun v _ => v = some (.int 1)) T (mkF m 208 #[.val (.int u), .val (.int w), .val (.int (1 : Int32)), .val (.int (0 : Int32)), .val (.int z116), .val (.int (((1 : Int32) + z116) % (3 : Int32))), .val (.int ((2 : Int32) - (((1 : Int32) + z116) % (3 : Int32)))), .val (.int (2 : Int32)), .val (.int ((((1 : Int32) + z116) % (3 : Int32)) + (1 : Int32))), .val (.int (((2 : Int32) - (((1 : Int32) + z116) % (3 : Int32))) + (1 : Int32))), .val (.int (1 : Int32)), .val (.int (3 : Int32)), .val (.ref b117), .val (.int (1 : Int32)), .val (.int (2 : Int32)), .val (.int (3 : Int32))] [(.int (2 : Int32))])
                      have t142 : (ovr (ovr (own_tab [3, 0, 1, 1, 0, 0]) (2 : Int32).toInt.toNat ((own_tab [3, 0, 1, 1, 0, 0]) 0)) 0 (2 : Int32)) = own_tab [2, 0, 3, 1, 0, 0] := by rw [own_tab_set [3, 0, 1, 1, 0, 0] (2 : Int32).toInt.toNat ((own_tab [3, 0, 1, 1, 0, 0]) 0) (by decide), own_tab_set ([3, 0, 1, 1, 0, 0].set (2 : Int32).toInt.toNat ((own_tab [3, 0, 1, 1, 0, 0]) 0)) 0 (2 : Int32) (by decide)]; rfl
                      rw [t142] at O141
                      have t143 : (ovr (ovr (own_tab [1, 3, 0, 0, 0, 0]) (2 : Int32).toInt.toNat 0) ((own_tab [3, 0, 1, 1, 0, 0]) 0).toInt.toNat (2 : Int32)) = own_tab [1, 3, 0, 2, 0, 0] := by rw [own_tab_set [1, 3, 0, 0, 0, 0] (2 : Int32).toInt.toNat 0 (by decide), own_tab_set ([1, 3, 0, 0, 0, 0].set (2 : Int32).toInt.toNat 0) ((own_tab [3, 0, 1, 1, 0, 0]) 0).toInt.toNat (2 : Int32) (by decide)]; rfl
                      rw [t143] at O141
                      replace O141 : own_OS Z n0 h140 b117 (0 : Int32) (4 : Int32) (own_tab [2, 0, 3, 1, 0, 0]) (own_tab [1, 3, 0, 2, 0, 0]) := O141
                      refine iload P at_208 rfl (n := 210) rfl ?_
                      refine icmp_eq P at_210 (n' := 215) (n := 213) (by decide) rfl (fun hc210 => ?_) (fun hc210 => ?_)
                      · -- pc 210 taken
                        replace hc210 : (2 : Int) = (2 : Int) := hc210
                        refine aload P at_215 rfl rfl (n := 217) rfl ?_
                        refine iload P at_217 rfl (n := 219) rfl ?_
                        refine callV P at_219 (a := b117) (argsL := [(.int (3 : Int32))]) (rest := []) (c_after l Z a0 hw b117 (3 : Int32) (0 : Int32) (4 : Int32) (own_tab [2, 0, 3, 1, 0, 0]) (own_tab [1, 3, 0, 2, 0, 0]) h140 n0 P.low O141 (by decide)) (own_OS_exa O141) (hw _ (List.mem_of_getElem? (i := 69) rfl)) (hw _ (List.mem_of_getElem? (i := 70) rfl)) (notFace_of_selects (args := #[]) (mvT P.hZ (hw _ (List.mem_of_getElem? (i := 72) rfl)))) (hw _ (List.mem_of_getElem? (i := 72) rfl)) (hw _ (List.mem_of_getElem? (i := 71) rfl)) (hw _ (List.mem_of_getElem? (i := 3) rfl)) (hw _ (List.mem_of_getElem? (i := 73) rfl)) (by decide) pd_4 rfl rfl rfl ⟨by decide, Nat.le_of_ble_eq_true rfl, by decide, by decide⟩ (n := 222) rfl (Ret.on ?_)
                        intro T P
                        rw [show (own_tab [1, 3, 0, 2, 0, 0]) (3 : Int32).toInt.toNat = (2 : Int32) from rfl]
                        refine iload P at_222 rfl (n := 224) rfl ?_
                        refine icmp_eq P at_224 (n' := 229) (n := 227) (by decide) rfl (fun hc224 => ?_) (fun hc224 => ?_)
                        · -- pc 224 taken
                          replace hc224 : (2 : Int) = (2 : Int) := hc224
                          refine aload P at_229 rfl rfl (n := 231) rfl ?_
                          refine ldc2J P at_231 (hw _ (List.mem_of_getElem? (i := 76) rfl)) (n := 234) rfl ?_
                          refine iconst P at_234 (x := (1 : Int32)) rfl (n := 235) rfl ?_
                          refine ldc2J P at_235 (hw _ (List.mem_of_getElem? (i := 77) rfl)) (n := 238) rfl ?_
                          refine iconst P at_238 (x := (0 : Int32)) rfl (n := 239) rfl ?_
                          refine iconst P at_239 (x := (5 : Int32)) rfl (n := 240) rfl ?_
                          refine callV P at_240 (a := b117) (argsL := [(.long (50 : Int64)), (.int (1 : Int32)), (.long (4 : Int64)), (.int (0 : Int32)), (.int (5 : Int32))]) (rest := []) (c_open l Z a0 hw b117 (50 : Int64) (1 : Int32) (4 : Int64) (0 : Int32) (5 : Int32) (0 : Int32) (4 : Int32) (own_tab [2, 0, 3, 1, 0, 0]) (own_tab [1, 3, 0, 2, 0, 0]) h140 n0 P.low O141 (by decide) (by decide) (by decide)) (own_OS_exa O141) (hw _ (List.mem_of_getElem? (i := 43) rfl)) (hw _ (List.mem_of_getElem? (i := 44) rfl)) (notFace_of_selects (args := #[]) (mvT P.hZ (hw _ (List.mem_of_getElem? (i := 46) rfl)))) (hw _ (List.mem_of_getElem? (i := 46) rfl)) (hw _ (List.mem_of_getElem? (i := 45) rfl)) (hw _ (List.mem_of_getElem? (i := 3) rfl)) (hw _ (List.mem_of_getElem? (i := 47) rfl)) (by decide) pd_2 rfl rfl rfl ⟨by decide, Nat.le_of_ble_eq_true rfl, by decide, by decide⟩ (n := 243) rfl ?_
                          rintro T h144 v P hq
                          obtain ⟨rfl, O145⟩ := hq.1 (by decide)
                          show Jvm.Own.Ends p e below s room_1 n0 (fun v _ => v = some (.int 1)) T (mkF m 243 #[.val (.int u), .val (.int w), .val (.int (1 : Int32)), .val (.int (0 : Int32)), .val (.int z116), .val (.int (((1 : Int32) + z116) % (3 : Int32))), .val (.int ((2 : Int32) - (((1 : Int32) + z116) % (3 : Int32)))), .val (.int (2 : Int32)), .val (.int ((((1 : Int32) + z116) % (3 : Int32)) + (1 : Int32))), .val (.int (((2 : Int32) - (((1 : Int32) + z116) % (3 : Int32))) + (1 : Int32))), .val (.int (1 : Int32)), .val (.int (3 : Int32)), .val (.ref b117), .val (.int (1 : Int32)), .val (.int (2 : Int32)), .val (.int (3 : Int32))] [(.int (4 : Int32))])
                          have t146 : (ovr (ovr (own_tab [2, 0, 3, 1, 0, 0]) (4 : Int32).toInt.toNat ((own_tab [2, 0, 3, 1, 0, 0]) 0)) 0 (4 : Int32)) = own_tab [4, 0, 3, 1, 2, 0] := by rw [own_tab_set [2, 0, 3, 1, 0, 0] (4 : Int32).toInt.toNat ((own_tab [2, 0, 3, 1, 0, 0]) 0) (by decide), own_tab_set ([2, 0, 3, 1, 0, 0].set (4 : Int32).toInt.toNat ((own_tab [2, 0, 3, 1, 0, 0]) 0)) 0 (4 : Int32) (by decide)]; rfl
                          rw [t146] at O145
                          have t147 : (ovr (ovr (own_tab [1, 3, 0, 2, 0, 0]) (4 : Int32).toInt.toNat 0) ((own_tab [2, 0, 3, 1, 0, 0]) 0).toInt.toNat (4 : Int32)) = own_tab [1, 3, 4, 2, 0, 0] := by rw [own_tab_set [1, 3, 0, 2, 0, 0] (4 : Int32).toInt.toNat 0 (by decide), own_tab_set ([1, 3, 0, 2, 0, 0].set (4 : Int32).toInt.toNat 0) ((own_tab [2, 0, 3, 1, 0, 0]) 0).toInt.toNat (4 : Int32) (by decide)]; rfl
                          rw [t147] at O145
                          replace O145 : own_OS Z n0 h144 b117 (0 : Int32) (5 : Int32) (own_tab [4, 0, 3, 1, 2, 0]) (own_tab [1, 3, 4, 2, 0, 0]) := O145
                          refine iconst P at_243 (x := (4 : Int32)) rfl (n := 244) rfl ?_
                          refine icmp_ne P at_244 (n' := 251) (n := 247) (by decide) rfl (fun hc244 => ?_) (fun hc244 => ?_)
                          · -- pc 244 taken
                            replace hc244 : ¬ (4 : Int) = (4 : Int) := hc244
                            exact absurd hc244 (by decide)
                          · -- pc 244 not taken
                            replace hc244 : (4 : Int) = (4 : Int) := hc244
                            refine iconst P at_247 (x := (1 : Int32)) rfl (n := 248) rfl ?_
                            refine goto P at_248 (n := 252) (by decide) ?_
                            refine retZ P at_252 (by decide) (by decide) (by decide) ?_
                            exact rfl
                        · -- pc 224 not taken
                          replace hc224 : ¬ (2 : Int) = (2 : Int) := hc224
                          exact absurd hc224 (by decide)
                      · -- pc 210 not taken
                        replace hc210 : ¬ (2 : Int) = (2 : Int) := hc210
                        exact absurd hc210 (by decide)
                    · -- pc 189 not taken
                      replace hc189 : ¬ (3 : Int) = (3 : Int) := hc189
                      exact absurd hc189 (by decide)
                  · -- pc 175 not taken
                    replace hc175 : ¬ (1 : Int) = (1 : Int) := hc175
                    exact absurd hc175 (by decide)
              · -- pc 152 not taken
                replace hc152 : ¬ (3 : Int) = (3 : Int) := hc152
                exact absurd hc152 (by decide)
        · -- pc 74 not taken
          replace hc74 : (1 : Int) = (2 : Int) := hc74
          exact absurd hc74 (by decide)
      · -- pc 62 not taken
        replace hc62 : (1 : Int) = (0 : Int) := hc62
        exact absurd hc62 (by decide)
    · -- pc 10 not taken
      replace hc10 : ¬ z113.toInt = (0 : Int) := hc10
      refine iconst P at_13 (x := (1 : Int32)) rfl (n := 14) rfl ?_
      refine goto P at_14 (n := 18) (by decide) ?_
      refine istoreN P at_18 (l' := #[.val (.int u), .val (.int w), .val (.int (1 : Int32)), .val (.int (1 : Int32)), .unset, .unset, .unset, .unset, .unset, .unset, .unset, .unset, .unset, .unset, .unset, .unset]) rfl (n := 19) rfl ?_
      refine iloadN P at_19 rfl (n := 20) rfl ?_
      refine iconst P at_20 (x := (1 : Int32)) rfl (n := 21) rfl ?_
      refine iushr P at_21 (n := 22) rfl ?_
      refine nameI (x := ((w.toUInt32 >>> ((1 : Int32) &&& 31).toUInt32).toInt32)) (F := fun z148 => Jvm.Own.Ends p e below s room_1 n0 (fun v _ => v = some (.int 1)) T (mkF m 22 #[.val (.int u), .val (.int w), .val (.int (1 : Int32)), .val (.int (1 : Int32)), .unset, .unset, .unset, .unset, .unset, .unset, .unset, .unset, .unset, .unset, .unset, .unset] [(.int z148)])) ?_
      intro z148 hz148
      have tz148 : z148.toInt = (w.toInt % 4294967296) / 2 := n_iushr 1 hz148 rfl (by decide)
      refine iconst P at_22 (x := (1 : Int32)) rfl (n := 23) rfl ?_
      refine iand P at_23 (n := 24) rfl ?_
      refine nameI (x := (z148 &&& (1 : Int32))) (F := fun z149 => Jvm.Own.Ends p e below s room_1 n0 (fun v _ => v = some (.int 1)) T (mkF m 24 #[.val (.int u), .val (.int w), .val (.int (1 : Int32)), .val (.int (1 : Int32)), .unset, .unset, .unset, .unset, .unset, .unset, .unset, .unset, .unset, .unset, .unset, .unset] [(.int z149)])) ?_
      intro z149 hz149
      have tz149 : z149.toInt = z148.toInt % 2 := n_mask 1 hz149 rfl (by decide)
      refine iconst P at_24 (x := (1 : Int32)) rfl (n := 25) rfl ?_
      refine iadd P at_25 (n := 26) rfl ?_
      refine nameI (x := (z149 + (1 : Int32))) (F := fun z150 => Jvm.Own.Ends p e below s room_1 n0 (fun v _ => v = some (.int 1)) T (mkF m 26 #[.val (.int u), .val (.int w), .val (.int (1 : Int32)), .val (.int (1 : Int32)), .unset, .unset, .unset, .unset, .unset, .unset, .unset, .unset, .unset, .unset, .unset, .unset] [(.int z150)])) ?_
      intro z150 hz150
      have tz150 : z150.toInt = z149.toInt + (1 : Int) := n_iadd hz150 rfl rfl (by omega)
      rcases (show z150.toInt = 1 ∨ z150.toInt = 2 by omega) with q26 | q26
      ·
        obtain rfl : z150 = (1 : Int32) := eqI q26
        refine istore P at_26 (l' := #[.val (.int u), .val (.int w), .val (.int (1 : Int32)), .val (.int (1 : Int32)), .val (.int (1 : Int32)), .unset, .unset, .unset, .unset, .unset, .unset, .unset, .unset, .unset, .unset, .unset]) rfl (n := 28) rfl ?_
        refine iloadN P at_28 rfl (n := 29) rfl ?_
        refine iload P at_29 rfl (n := 31) rfl ?_
        refine iadd P at_31 (n := 32) rfl ?_
        rw [show ((1 : Int32) + (1 : Int32)) = (2 : Int32) from by decide]
        refine iconst P at_32 (x := (3 : Int32)) rfl (n := 33) rfl ?_
        refine irem P at_33 (by decide) (n := 34) rfl ?_
        rw [show ((2 : Int32) % (3 : Int32)) = (2 : Int32) from by decide]
        refine istore P at_34 (l' := #[.val (.int u), .val (.int w), .val (.int (1 : Int32)), .val (.int (1 : Int32)), .val (.int (1 : Int32)), .val (.int (2 : Int32)), .unset, .unset, .unset, .unset, .unset, .unset, .unset, .unset, .unset, .unset]) rfl (n := 36) rfl ?_
        refine iconst P at_36 (x := (3 : Int32)) rfl (n := 37) rfl ?_
        refine iloadN P at_37 rfl (n := 38) rfl ?_
        refine isub P at_38 (n := 39) rfl ?_
        rw [show ((3 : Int32) - (1 : Int32)) = (2 : Int32) from by decide]
        refine iload P at_39 rfl (n := 41) rfl ?_
        refine isub P at_41 (n := 42) rfl ?_
        rw [show ((2 : Int32) - (2 : Int32)) = (0 : Int32) from by decide]
        refine istore P at_42 (l' := #[.val (.int u), .val (.int w), .val (.int (1 : Int32)), .val (.int (1 : Int32)), .val (.int (1 : Int32)), .val (.int (2 : Int32)), .val (.int (0 : Int32)), .unset, .unset, .unset, .unset, .unset, .unset, .unset, .unset, .unset]) rfl (n := 44) rfl ?_
        refine iloadN P at_44 rfl (n := 45) rfl ?_
        refine iconst P at_45 (x := (1 : Int32)) rfl (n := 46) rfl ?_
        refine iadd P at_46 (n := 47) rfl ?_
        rw [show ((1 : Int32) + (1 : Int32)) = (2 : Int32) from by decide]
        refine istore P at_47 (l' := #[.val (.int u), .val (.int w), .val (.int (1 : Int32)), .val (.int (1 : Int32)), .val (.int (1 : Int32)), .val (.int (2 : Int32)), .val (.int (0 : Int32)), .val (.int (2 : Int32)), .unset, .unset, .unset, .unset, .unset, .unset, .unset, .unset]) rfl (n := 49) rfl ?_
        refine iload P at_49 rfl (n := 51) rfl ?_
        refine iconst P at_51 (x := (1 : Int32)) rfl (n := 52) rfl ?_
        refine iadd P at_52 (n := 53) rfl ?_
        rw [show ((2 : Int32) + (1 : Int32)) = (3 : Int32) from by decide]
        refine istore P at_53 (l' := #[.val (.int u), .val (.int w), .val (.int (1 : Int32)), .val (.int (1 : Int32)), .val (.int (1 : Int32)), .val (.int (2 : Int32)), .val (.int (0 : Int32)), .val (.int (2 : Int32)), .val (.int (3 : Int32)), .unset, .unset, .unset, .unset, .unset, .unset, .unset]) rfl (n := 55) rfl ?_
        refine iload P at_55 rfl (n := 57) rfl ?_
        refine iconst P at_57 (x := (1 : Int32)) rfl (n := 58) rfl ?_
        refine iadd P at_58 (n := 59) rfl ?_
        rw [show ((0 : Int32) + (1 : Int32)) = (1 : Int32) from by decide]
        refine istore P at_59 (l' := #[.val (.int u), .val (.int w), .val (.int (1 : Int32)), .val (.int (1 : Int32)), .val (.int (1 : Int32)), .val (.int (2 : Int32)), .val (.int (0 : Int32)), .val (.int (2 : Int32)), .val (.int (3 : Int32)), .val (.int (1 : Int32)), .unset, .unset, .unset, .unset, .unset, .unset]) rfl (n := 61) rfl ?_
        refine iloadN P at_61 rfl (n := 62) rfl ?_
        refine if0_ne P at_62 (n' := 69) (n := 65) (by decide) rfl (fun hc62 => ?_) (fun hc62 => ?_)
        · -- pc 62 taken
          replace hc62 : ¬ (1 : Int) = (0 : Int) := hc62
          refine iconst P at_69 (x := (1 : Int32)) rfl (n := 70) rfl ?_
          refine istore P at_70 (l' := #[.val (.int u), .val (.int w), .val (.int (1 : Int32)), .val (.int (1 : Int32)), .val (.int (1 : Int32)), .val (.int (2 : Int32)), .val (.int (0 : Int32)), .val (.int (2 : Int32)), .val (.int (3 : Int32)), .val (.int (1 : Int32)), .val (.int (1 : Int32)), .unset, .unset, .unset, .unset, .unset]) rfl (n := 72) rfl ?_
          refine iloadN P at_72 rfl (n := 73) rfl ?_
          refine iconst P at_73 (x := (2 : Int32)) rfl (n := 74) rfl ?_
          refine icmp_ne P at_74 (n' := 81) (n := 77) (by decide) rfl (fun hc74 => ?_) (fun hc74 => ?_)
          · -- pc 74 taken
            replace hc74 : ¬ (1 : Int) = (2 : Int) := hc74
            refine iconst P at_81 (x := (3 : Int32)) rfl (n := 82) rfl ?_
            refine istore P at_82 (l' := #[.val (.int u), .val (.int w), .val (.int (1 : Int32)), .val (.int (1 : Int32)), .val (.int (1 : Int32)), .val (.int (2 : Int32)), .val (.int (0 : Int32)), .val (.int (2 : Int32)), .val (.int (3 : Int32)), .val (.int (1 : Int32)), .val (.int (1 : Int32)), .val (.int (3 : Int32)), .unset, .unset, .unset, .unset]) rfl (n := 84) rfl ?_
            refine newO P at_84 (hw _ (List.mem_of_getElem? (i := 1) rfl)) (hw _ (List.mem_of_getElem? (i := 2) rfl)) (hw _ (List.mem_of_getElem? (i := 3) rfl)) (by decide) (by decide) (n := 87) rfl ?_
            intro T h152 b151 P X153 g154 lo_b151 E_b151 D_b151
            have F_b151_ids := D_b151 (Or.inl (hw _ (List.mem_of_getElem? (i := 12) rfl))) (ty := (.array .long)) (by decide)
            have F_b151_ordinals := D_b151 (Or.inl (hw _ (List.mem_of_getElem? (i := 15) rfl))) (ty := (.array .int)) (by decide)
            have F_b151_firstSeconds := D_b151 (Or.inl (hw _ (List.mem_of_getElem? (i := 17) rfl))) (ty := (.array .long)) (by decide)
            have F_b151_firstNanos := D_b151 (Or.inl (hw _ (List.mem_of_getElem? (i := 19) rfl))) (ty := (.array .int)) (by decide)
            have F_b151_lastSeconds := D_b151 (Or.inl (hw _ (List.mem_of_getElem? (i := 21) rfl))) (ty := (.array .long)) (by decide)
            have F_b151_lastNanos := D_b151 (Or.inl (hw _ (List.mem_of_getElem? (i := 23) rfl))) (ty := (.array .int)) (by decide)
            have F_b151_records := D_b151 (Or.inl (hw _ (List.mem_of_getElem? (i := 25) rfl))) (ty := (.array .long)) (by decide)
            have F_b151_entities := D_b151 (Or.inl (hw _ (List.mem_of_getElem? (i := 27) rfl))) (ty := (.array .int)) (by decide)
            have F_b151_others := D_b151 (Or.inl (hw _ (List.mem_of_getElem? (i := 31) rfl))) (ty := (.array (.array .int))) (by decide)
            have F_b151_otherCounts := D_b151 (Or.inl (hw _ (List.mem_of_getElem? (i := 33) rfl))) (ty := (.array .int)) (by decide)
            have F_b151_earlier := D_b151 (Or.inl (hw _ (List.mem_of_getElem? (i := 35) rfl))) (ty := (.array .int)) (by decide)
            have F_b151_later := D_b151 (Or.inl (hw _ (List.mem_of_getElem? (i := 37) rfl))) (ty := (.array .int)) (by decide)
            have F_b151_unused := D_b151 (Or.inl (hw _ (List.mem_of_getElem? (i := 39) rfl))) (ty := .int) (by decide)
            have F_b151_used := D_b151 (Or.inl (hw _ (List.mem_of_getElem? (i := 41) rfl))) (ty := .int) (by decide)
            refine dup P at_87 rfl (n := 88) rfl ?_
            refine callN P at_88 (a := b151) (argsL := []) (rest := [(.ref b151)]) (c_new l Z a0 hw b151 h152 n0 P.low E_b151 F_b151_unused F_b151_used F_b151_ids F_b151_ordinals F_b151_firstSeconds F_b151_firstNanos F_b151_lastSeconds F_b151_lastNanos F_b151_records F_b151_entities F_b151_others F_b151_otherCounts F_b151_earlier F_b151_later lo_b151) rfl (hw _ (List.mem_of_getElem? (i := 4) rfl)) (hw _ (List.mem_of_getElem? (i := 5) rfl)) (hw _ (List.mem_of_getElem? (i := 3) rfl)) (hw _ (List.mem_of_getElem? (i := 6) rfl)) (by decide) pd_1 rfl rfl rfl ⟨by decide, Nat.le_of_ble_eq_true rfl, by decide, by decide⟩ (n := 91) rfl ?_
            rintro T h155 v P ⟨rfl, O156⟩
            show Jvm.Own.Ends p e below s room_1 n0 (fun v _ => v = some (.int 1)) T (mkF m 91 #[.val (.int u), .val (.int w), .val (.int (1 : Int32)), .val (.int (1 : Int32)), .val (.int (1 : Int32)), .val (.int (2 : Int32)), .val (.int (0 : Int32)), .val (.int (2 : Int32)), .val (.int (3 : Int32)), .val (.int (1 : Int32)), .val (.int (1 : Int32)), .val (.int (3 : Int32)), .unset, .unset, .unset, .unset] [(.ref b151)])
            rw [own_tab0] at O156
            replace O156 : own_OS Z n0 h155 b151 (0 : Int32) (1 : Int32) (own_tab [0, 0, 0, 0, 0, 0]) (own_tab [0, 0, 0, 0, 0, 0]) := O156
            refine astore P at_91 rfl (l' := #[.val (.int u), .val (.int w), .val (.int (1 : Int32)), .val (.int (1 : Int32)), .val (.int (1 : Int32)), .val (.int (2 : Int32)), .val (.int (0 : Int32)), .val (.int (2 : Int32)), .val (.int (3 : Int32)), .val (.int (1 : Int32)), .val (.int (1 : Int32)), .val (.int (3 : Int32)), .val (.ref b151), .unset, .unset, .unset]) rfl (n := 93) rfl ?_
            refine aload P at_93 rfl rfl (n := 95) rfl ?_
            refine ldc2J P at_95 (hw _ (List.mem_of_getElem? (i := 42) rfl)) (n := 98) rfl ?_
            refine iconst P at_98 (x := (1 : Int32)) rfl (n := 99) rfl ?_
            refine lconst P at_99 (x := (0 : Int64)) rfl (n := 100) rfl ?_
            refine iconst P at_100 (x := (0 : Int32)) rfl (n := 101) rfl ?_
            refine iconst P at_101 (x := (1 : Int32)) rfl (n := 102) rfl ?_
            refine callV P at_102 (a := b151) (argsL := [(.long (10 : Int64)), (.int (1 : Int32)), (.long (0 : Int64)), (.int (0 : Int32)), (.int (1 : Int32))]) (rest := []) (c_open l Z a0 hw b151 (10 : Int64) (1 : Int32) (0 : Int64) (0 : Int32) (1 : Int32) (0 : Int32) (1 : Int32) (own_tab [0, 0, 0, 0, 0, 0]) (own_tab [0, 0, 0, 0, 0, 0]) h155 n0 P.low O156 (by decide) (by decide) (by decide)) (own_OS_exa O156) (hw _ (List.mem_of_getElem? (i := 43) rfl)) (hw _ (List.mem_of_getElem? (i := 44) rfl)) (notFace_of_selects (args := #[]) (mvT P.hZ (hw _ (List.mem_of_getElem? (i := 46) rfl)))) (hw _ (List.mem_of_getElem? (i := 46) rfl)) (hw _ (List.mem_of_getElem? (i := 45) rfl)) (hw _ (List.mem_of_getElem? (i := 3) rfl)) (hw _ (List.mem_of_getElem? (i := 47) rfl)) (by decide) pd_2 rfl rfl rfl ⟨by decide, Nat.le_of_ble_eq_true rfl, by decide, by decide⟩ (n := 105) rfl ?_
            rintro T h157 v P hq
            obtain ⟨rfl, O158⟩ := hq.1 (by decide)
            show Jvm.Own.Ends p e below s room_1 n0 (fun v _ => v = some (.int 1)) T (mkF m 105 #[.val (.int u), .val (.int w), .val (.int (1 : Int32)), .val (.int (1 : Int32)), .val (.int (1 : Int32)), .val (.int (2 : Int32)), .val (.int (0 : Int32)), .val (.int (2 : Int32)), .val (.int (3 : Int32)), .val (.int (1 : Int32)), .val (.int (1 : Int32)), .val (.int (3 : Int32)), .val (.ref b151), .unset, .unset, .unset] [(.int (1 : Int32))])
            have t159 : (ovr (ovr (own_tab [0, 0, 0, 0, 0, 0]) (1 : Int32).toInt.toNat ((own_tab [0, 0, 0, 0, 0, 0]) 0)) 0 (1 : Int32)) = own_tab [1, 0, 0, 0, 0, 0] := by rw [own_tab_set [0, 0, 0, 0, 0, 0] (1 : Int32).toInt.toNat ((own_tab [0, 0, 0, 0, 0, 0]) 0) (by decide), own_tab_set ([0, 0, 0, 0, 0, 0].set (1 : Int32).toInt.toNat ((own_tab [0, 0, 0, 0, 0, 0]) 0)) 0 (1 : Int32) (by decide)]; rfl
            rw [t159] at O158
            have t160 : (ovr (ovr (own_tab [0, 0, 0, 0, 0, 0]) (1 : Int32).toInt.toNat 0) ((own_tab [0, 0, 0, 0, 0, 0]) 0).toInt.toNat (1 : Int32)) = own_tab [1, 0, 0, 0, 0, 0] := by rw [own_tab_set [0, 0, 0, 0, 0, 0] (1 : Int32).toInt.toNat 0 (by decide), own_tab_set ([0, 0, 0, 0, 0, 0].set (1 : Int32).toInt.toNat 0) ((own_tab [0, 0, 0, 0, 0, 0]) 0).toInt.toNat (1 : Int32) (by decide)]; rfl
            rw [t160] at O158
            replace O158 : own_OS Z n0 h157 b151 (0 : Int32) (2 : Int32) (own_tab [1, 0, 0, 0, 0, 0]) (own_tab [1, 0, 0, 0, 0, 0]) := O158
            refine istore P at_105 (l' := #[.val (.int u), .val (.int w), .val (.int (1 : Int32)), .val (.int (1 : Int32)), .val (.int (1 : Int32)), .val (.int (2 : Int32)), .val (.int (0 : Int32)), .val (.int (2 : Int32)), .val (.int (3 : Int32)), .val (.int (1 : Int32)), .val (.int (1 : Int32)), .val (.int (3 : Int32)), .val (.ref b151), .val (.int (1 : Int32)), .unset, .unset]) rfl (n := 107) rfl ?_
            refine aload P at_107 rfl rfl (n := 109) rfl ?_
            refine ldc2J P at_109 (hw _ (List.mem_of_getElem? (i := 52) rfl)) (n := 112) rfl ?_
            refine iconst P at_112 (x := (1 : Int32)) rfl (n := 113) rfl ?_
            refine lconst P at_113 (x := (1 : Int64)) rfl (n := 114) rfl ?_
            refine iconst P at_114 (x := (0 : Int32)) rfl (n := 115) rfl ?_
            refine iconst P at_115 (x := (2 : Int32)) rfl (n := 116) rfl ?_
            refine callV P at_116 (a := b151) (argsL := [(.long (20 : Int64)), (.int (1 : Int32)), (.long (1 : Int64)), (.int (0 : Int32)), (.int (2 : Int32))]) (rest := []) (c_open l Z a0 hw b151 (20 : Int64) (1 : Int32) (1 : Int64) (0 : Int32) (2 : Int32) (0 : Int32) (2 : Int32) (own_tab [1, 0, 0, 0, 0, 0]) (own_tab [1, 0, 0, 0, 0, 0]) h157 n0 P.low O158 (by decide) (by decide) (by decide)) (own_OS_exa O158) (hw _ (List.mem_of_getElem? (i := 43) rfl)) (hw _ (List.mem_of_getElem? (i := 44) rfl)) (notFace_of_selects (args := #[]) (mvT P.hZ (hw _ (List.mem_of_getElem? (i := 46) rfl)))) (hw _ (List.mem_of_getElem? (i := 46) rfl)) (hw _ (List.mem_of_getElem? (i := 45) rfl)) (hw _ (List.mem_of_getElem? (i := 3) rfl)) (hw _ (List.mem_of_getElem? (i := 47) rfl)) (by decide) pd_2 rfl rfl rfl ⟨by decide, Nat.le_of_ble_eq_true rfl, by decide, by decide⟩ (n := 119) rfl ?_
            rintro T h161 v P hq
            obtain ⟨rfl, O162⟩ := hq.1 (by decide)
            show Jvm.Own.Ends p e below s room_1 n0 (fun v _ => v = some (.int 1)) T (mkF m 119 #[.val (.int u), .val (.int w), .val (.int (1 : Int32)), .val (.int (1 : Int32)), .val (.int (1 : Int32)), .val (.int (2 : Int32)), .val (.int (0 : Int32)), .val (.int (2 : Int32)), .val (.int (3 : Int32)), .val (.int (1 : Int32)), .val (.int (1 : Int32)), .val (.int (3 : Int32)), .val (.ref b151), .val (.int (1 : Int32)), .unset, .unset] [(.int (2 : Int32))])
            have t163 : (ovr (ovr (own_tab [1, 0, 0, 0, 0, 0]) (2 : Int32).toInt.toNat ((own_tab [1, 0, 0, 0, 0, 0]) 0)) 0 (2 : Int32)) = own_tab [2, 0, 1, 0, 0, 0] := by rw [own_tab_set [1, 0, 0, 0, 0, 0] (2 : Int32).toInt.toNat ((own_tab [1, 0, 0, 0, 0, 0]) 0) (by decide), own_tab_set ([1, 0, 0, 0, 0, 0].set (2 : Int32).toInt.toNat ((own_tab [1, 0, 0, 0, 0, 0]) 0)) 0 (2 : Int32) (by decide)]; rfl
            rw [t163] at O162
            have t164 : (ovr (ovr (own_tab [1, 0, 0, 0, 0, 0]) (2 : Int32).toInt.toNat 0) ((own_tab [1, 0, 0, 0, 0, 0]) 0).toInt.toNat (2 : Int32)) = own_tab [1, 2, 0, 0, 0, 0] := by rw [own_tab_set [1, 0, 0, 0, 0, 0] (2 : Int32).toInt.toNat 0 (by decide), own_tab_set ([1, 0, 0, 0, 0, 0].set (2 : Int32).toInt.toNat 0) ((own_tab [1, 0, 0, 0, 0, 0]) 0).toInt.toNat (2 : Int32) (by decide)]; rfl
            rw [t164] at O162
            replace O162 : own_OS Z n0 h161 b151 (0 : Int32) (3 : Int32) (own_tab [2, 0, 1, 0, 0, 0]) (own_tab [1, 2, 0, 0, 0, 0]) := O162
            refine istore P at_119 (l' := #[.val (.int u), .val (.int w), .val (.int (1 : Int32)), .val (.int (1 : Int32)), .val (.int (1 : Int32)), .val (.int (2 : Int32)), .val (.int (0 : Int32)), .val (.int (2 : Int32)), .val (.int (3 : Int32)), .val (.int (1 : Int32)), .val (.int (1 : Int32)), .val (.int (3 : Int32)), .val (.ref b151), .val (.int (1 : Int32)), .val (.int (2 : Int32)), .unset]) rfl (n := 121) rfl ?_
            refine aload P at_121 rfl rfl (n := 123) rfl ?_
            refine ldc2J P at_123 (hw _ (List.mem_of_getElem? (i := 53) rfl)) (n := 126) rfl ?_
            refine iconst P at_126 (x := (1 : Int32)) rfl (n := 127) rfl ?_
            refine ldc2J P at_127 (hw _ (List.mem_of_getElem? (i := 54) rfl)) (n := 130) rfl ?_
            refine iconst P at_130 (x := (0 : Int32)) rfl (n := 131) rfl ?_
            refine iconst P at_131 (x := (3 : Int32)) rfl (n := 132) rfl ?_
            refine callV P at_132 (a := b151) (argsL := [(.long (30 : Int64)), (.int (1 : Int32)), (.long (2 : Int64)), (.int (0 : Int32)), (.int (3 : Int32))]) (rest := []) (c_open l Z a0 hw b151 (30 : Int64) (1 : Int32) (2 : Int64) (0 : Int32) (3 : Int32) (0 : Int32) (3 : Int32) (own_tab [2, 0, 1, 0, 0, 0]) (own_tab [1, 2, 0, 0, 0, 0]) h161 n0 P.low O162 (by decide) (by decide) (by decide)) (own_OS_exa O162) (hw _ (List.mem_of_getElem? (i := 43) rfl)) (hw _ (List.mem_of_getElem? (i := 44) rfl)) (notFace_of_selects (args := #[]) (mvT P.hZ (hw _ (List.mem_of_getElem? (i := 46) rfl)))) (hw _ (List.mem_of_getElem? (i := 46) rfl)) (hw _ (List.mem_of_getElem? (i := 45) rfl)) (hw _ (List.mem_of_getElem? (i := 3) rfl)) (hw _ (List.mem_of_getElem? (i := 47) rfl)) (by decide) pd_2 rfl rfl rfl ⟨by decide, Nat.le_of_ble_eq_true rfl, by decide, by decide⟩ (n := 135) rfl ?_
            rintro T h165 v P hq
            obtain ⟨rfl, O166⟩ := hq.1 (by decide)
            show Jvm.Own.Ends p e below s room_1 n0 (fun v _ => v = some (.int 1)) T (mkF m 135 #[.val (.int u), .val (.int w), .val (.int (1 : Int32)), .val (.int (1 : Int32)), .val (.int (1 : Int32)), .val (.int (2 : Int32)), .val (.int (0 : Int32)), .val (.int (2 : Int32)), .val (.int (3 : Int32)), .val (.int (1 : Int32)), .val (.int (1 : Int32)), .val (.int (3 : Int32)), .val (.ref b151), .val (.int (1 : Int32)), .val (.int (2 : Int32)), .unset] [(.int (3 : Int32))])
            have t167 : (ovr (ovr (own_tab [2, 0, 1, 0, 0, 0]) (3 : Int32).toInt.toNat ((own_tab [2, 0, 1, 0, 0, 0]) 0)) 0 (3 : Int32)) = own_tab [3, 0, 1, 2, 0, 0] := by rw [own_tab_set [2, 0, 1, 0, 0, 0] (3 : Int32).toInt.toNat ((own_tab [2, 0, 1, 0, 0, 0]) 0) (by decide), own_tab_set ([2, 0, 1, 0, 0, 0].set (3 : Int32).toInt.toNat ((own_tab [2, 0, 1, 0, 0, 0]) 0)) 0 (3 : Int32) (by decide)]; rfl
            rw [t167] at O166
            have t168 : (ovr (ovr (own_tab [1, 2, 0, 0, 0, 0]) (3 : Int32).toInt.toNat 0) ((own_tab [2, 0, 1, 0, 0, 0]) 0).toInt.toNat (3 : Int32)) = own_tab [1, 2, 3, 0, 0, 0] := by rw [own_tab_set [1, 2, 0, 0, 0, 0] (3 : Int32).toInt.toNat 0 (by decide), own_tab_set ([1, 2, 0, 0, 0, 0].set (3 : Int32).toInt.toNat 0) ((own_tab [2, 0, 1, 0, 0, 0]) 0).toInt.toNat (3 : Int32) (by decide)]; rfl
            rw [t168] at O166
            replace O166 : own_OS Z n0 h165 b151 (0 : Int32) (4 : Int32) (own_tab [3, 0, 1, 2, 0, 0]) (own_tab [1, 2, 3, 0, 0, 0]) := O166
            refine istore P at_135 (l' := #[.val (.int u), .val (.int w), .val (.int (1 : Int32)), .val (.int (1 : Int32)), .val (.int (1 : Int32)), .val (.int (2 : Int32)), .val (.int (0 : Int32)), .val (.int (2 : Int32)), .val (.int (3 : Int32)), .val (.int (1 : Int32)), .val (.int (1 : Int32)), .val (.int (3 : Int32)), .val (.ref b151), .val (.int (1 : Int32)), .val (.int (2 : Int32)), .val (.int (3 : Int32))]) rfl (n := 137) rfl ?_
            refine iload P at_137 rfl (n := 139) rfl ?_
            refine iconst P at_139 (x := (1 : Int32)) rfl (n := 140) rfl ?_
            refine icmp_ne P at_140 (n' := 155) (n := 143) (by decide) rfl (fun hc140 => ?_) (fun hc140 => ?_)
            · -- pc 140 taken
              replace hc140 : ¬ (1 : Int) = (1 : Int) := hc140
              exact absurd hc140 (by decide)
            · -- pc 140 not taken
              replace hc140 : (1 : Int) = (1 : Int) := hc140
              refine iload P at_143 rfl (n := 145) rfl ?_
              refine iconst P at_145 (x := (2 : Int32)) rfl (n := 146) rfl ?_
              refine icmp_ne P at_146 (n' := 155) (n := 149) (by decide) rfl (fun hc146 => ?_) (fun hc146 => ?_)
              · -- pc 146 taken
                replace hc146 : ¬ (2 : Int) = (2 : Int) := hc146
                exact absurd hc146 (by decide)
              · -- pc 146 not taken
                replace hc146 : (2 : Int) = (2 : Int) := hc146
                refine iload P at_149 rfl (n := 151) rfl ?_
                refine iconst P at_151 (x := (3 : Int32)) rfl (n := 152) rfl ?_
                refine icmp_eq P at_152 (n' := 157) (n := 155) (by decide) rfl (fun hc152 => ?_) (fun hc152 => ?_)
                · -- pc 152 taken
                  replace hc152 : (3 : Int) = (3 : Int) := hc152
                  refine aload P at_157 rfl rfl (n := 159) rfl ?_
                  refine iload P at_159 rfl (n := 161) rfl ?_
                  refine callV P at_161 (a := b151) (argsL := [(.int (2 : Int32))]) (rest := []) (c_end l Z a0 hw b151 (2 : Int32) (0 : Int32) (4 : Int32) (own_tab [3, 0, 1, 2, 0, 0]) (own_tab [1, 2, 3, 0, 0, 0]) h165 n0 P.low O166 (by decide) (by decide) (by decide) (by decide)) (own_OS_exa O166) (hw _ (List.mem_of_getElem? (i := 55) rfl)) (hw _ (List.mem_of_getElem? (i := 56) rfl)) (notFace_of_selects (args := #[]) (mvT P.hZ (hw _ (List.mem_of_getElem? (i := 58) rfl)))) (hw _ (List.mem_of_getElem? (i := 58) rfl)) (hw _ (List.mem_of_getElem? (i := 57) rfl)) (hw _ (List.mem_of_getElem? (i := 3) rfl)) (hw _ (List.mem_of_getElem? (i := 59) rfl)) (by decide) pd_0 rfl rfl rfl ⟨by decide, Nat.le_of_ble_eq_true rfl, by decide, by decide⟩ (n := 164) rfl ?_
                  rintro T h169 v P ⟨rfl, O170⟩
                  show Jvm.Own.Ends p e below s room_1 n0 (fun v _ => v = some (.int 1)) T (mkF m 164 #[.val (.int u), .val (.int w), .val (.int (1 : Int32)), .val (.int (1 : Int32)), .val (.int (1 : Int32)), .val (.int (2 : Int32)), .val (.int (0 : Int32)), .val (.int (2 : Int32)), .val (.int (3 : Int32)), .val (.int (1 : Int32)), .val (.int (1 : Int32)), .val (.int (3 : Int32)), .val (.ref b151), .val (.int (1 : Int32)), .val (.int (2 : Int32)), .val (.int (3 : Int32))] [])
                  have t171 : (ovr (own_tab [1, 2, 3, 0, 0, 0]) ((own_tab [3, 0, 1, 2, 0, 0]) (2 : Int32).toInt.toNat).toInt.toNat ((own_tab [1, 2, 3, 0, 0, 0]) (2 : Int32).toInt.toNat)) = own_tab [1, 3, 3, 0, 0, 0] := by rw [own_tab_set [1, 2, 3, 0, 0, 0] ((own_tab [3, 0, 1, 2, 0, 0]) (2 : Int32).toInt.toNat).toInt.toNat ((own_tab [1, 2, 3, 0, 0, 0]) (2 : Int32).toInt.toNat) (by decide)]; rfl
                  rw [t171] at O170
                  have t172 : (ovr (own_tab [1, 3, 3, 0, 0, 0]) (2 : Int32).toInt.toNat (0 : Int32)) = own_tab [1, 3, 0, 0, 0, 0] := by rw [own_tab_set [1, 3, 3, 0, 0, 0] (2 : Int32).toInt.toNat (0 : Int32) (by decide)]; rfl
                  rw [t172] at O170
                  have t173 : (ovr (own_tab [3, 0, 1, 2, 0, 0]) ((own_tab [1, 3, 3, 0, 0, 0]) (2 : Int32).toInt.toNat).toInt.toNat ((own_tab [3, 0, 1, 2, 0, 0]) (2 : Int32).toInt.toNat)) = own_tab [3, 0, 1, 1, 0, 0] := by rw [own_tab_set [3, 0, 1, 2, 0, 0] ((own_tab [1, 3, 3, 0, 0, 0]) (2 : Int32).toInt.toNat).toInt.toNat ((own_tab [3, 0, 1, 2, 0, 0]) (2 : Int32).toInt.toNat) (by decide)]; rfl
                  rw [t173] at O170
                  replace O170 : own_OS Z n0 h169 b151 (2 : Int32) (4 : Int32) (own_tab [3, 0, 1, 1, 0, 0]) (own_tab [1, 3, 0, 0, 0, 0]) := O170
                  refine iloadN P at_164 rfl (n := 165) rfl ?_
                  refine if0_ne P at_165 (n' := 253) (n := 168) (by decide) rfl (fun hc165 => ?_) (fun hc165 => ?_)
                  · -- pc 165 taken
                    replace hc165 : ¬ (1 : Int) = (0 : Int) := hc165
                    refine aload P at_253 rfl rfl (n := 255) rfl ?_
                    refine iload P at_255 rfl (n := 257) rfl ?_
                    refine callV P at_257 (a := b151) (argsL := [(.int (3 : Int32))]) (rest := []) (c_end l Z a0 hw b151 (3 : Int32) (2 : Int32) (4 : Int32) (own_tab [3, 0, 1, 1, 0, 0]) (own_tab [1, 3, 0, 0, 0, 0]) h169 n0 P.low O170 (by decide) (by decide) (by decide) (by decide)) (own_OS_exa O170) (hw _ (List.mem_of_getElem? (i := 55) rfl)) (hw _ (List.mem_of_getElem? (i := 56) rfl)) (notFace_of_selects (args := #[]) (mvT P.hZ (hw _ (List.mem_of_getElem? (i := 58) rfl)))) (hw _ (List.mem_of_getElem? (i := 58) rfl)) (hw _ (List.mem_of_getElem? (i := 57) rfl)) (hw _ (List.mem_of_getElem? (i := 3) rfl)) (hw _ (List.mem_of_getElem? (i := 59) rfl)) (by decide) pd_0 rfl rfl rfl ⟨by decide, Nat.le_of_ble_eq_true rfl, by decide, by decide⟩ (n := 260) rfl ?_
                    rintro T h174 v P ⟨rfl, O175⟩
                    show Jvm.Own.Ends p e below s room_1 n0 (fun v _ => v = some (.int 1)) T (mkF m 260 #[.val (.int u), .val (.int w), .val (.int (1 : Int32)), .val (.int (1 : Int32)), .val (.int (1 : Int32)), .val (.int (2 : Int32)), .val (.int (0 : Int32)), .val (.int (2 : Int32)), .val (.int (3 : Int32)), .val (.int (1 : Int32)), .val (.int (1 : Int32)), .val (.int (3 : Int32)), .val (.ref b151), .val (.int (1 : Int32)), .val (.int (2 : Int32)), .val (.int (3 : Int32))] [])
                    have t176 : (ovr (own_tab [1, 3, 0, 0, 0, 0]) ((own_tab [3, 0, 1, 1, 0, 0]) (3 : Int32).toInt.toNat).toInt.toNat ((own_tab [1, 3, 0, 0, 0, 0]) (3 : Int32).toInt.toNat)) = own_tab [1, 0, 0, 0, 0, 0] := by rw [own_tab_set [1, 3, 0, 0, 0, 0] ((own_tab [3, 0, 1, 1, 0, 0]) (3 : Int32).toInt.toNat).toInt.toNat ((own_tab [1, 3, 0, 0, 0, 0]) (3 : Int32).toInt.toNat) (by decide)]; rfl
                    rw [t176] at O175
                    have t177 : (ovr (own_tab [1, 0, 0, 0, 0, 0]) (3 : Int32).toInt.toNat (2 : Int32)) = own_tab [1, 0, 0, 2, 0, 0] := by rw [own_tab_set [1, 0, 0, 0, 0, 0] (3 : Int32).toInt.toNat (2 : Int32) (by decide)]; rfl
                    rw [t177] at O175
                    have t178 : (ovr (own_tab [3, 0, 1, 1, 0, 0]) ((own_tab [1, 0, 0, 0, 0, 0]) (3 : Int32).toInt.toNat).toInt.toNat ((own_tab [3, 0, 1, 1, 0, 0]) (3 : Int32).toInt.toNat)) = own_tab [1, 0, 1, 1, 0, 0] := by rw [own_tab_set [3, 0, 1, 1, 0, 0] ((own_tab [1, 0, 0, 0, 0, 0]) (3 : Int32).toInt.toNat).toInt.toNat ((own_tab [3, 0, 1, 1, 0, 0]) (3 : Int32).toInt.toNat) (by decide)]; rfl
                    rw [t178] at O175
                    replace O175 : own_OS Z n0 h174 b151 (3 : Int32) (4 : Int32) (own_tab [1, 0, 1, 1, 0, 0]) (own_tab [1, 0, 0, 2, 0, 0]) := O175
                    refine aload P at_260 rfl rfl (n := 262) rfl ?_
                    refine callV P at_262 (a := b151) (argsL := []) (rest := []) (c_first l Z a0 hw b151 (3 : Int32) (4 : Int32) (own_tab [1, 0, 1, 1, 0, 0]) (own_tab [1, 0, 0, 2, 0, 0]) h174 n0 P.low O175) (own_OS_exa O175) (hw _ (List.mem_of_getElem? (i := 64) rfl)) (hw _ (List.mem_of_getElem? (i := 65) rfl)) (notFace_of_selects (args := #[]) (mvT P.hZ (hw _ (List.mem_of_getElem? (i := 67) rfl)))) (hw _ (List.mem_of_getElem? (i := 67) rfl)) (hw _ (List.mem_of_getElem? (i := 66) rfl)) (hw _ (List.mem_of_getElem? (i := 3) rfl)) (hw _ (List.mem_of_getElem? (i := 68) rfl)) (by decide) pd_3 rfl rfl rfl ⟨by decide, Nat.le_of_ble_eq_true rfl, by decide, by decide⟩ (n := 265) rfl (Ret.on ?_)
                    intro T P
                    rw [show (own_tab [1, 0, 0, 2, 0, 0]) 0 = (1 : Int32) from rfl]
                    refine iload P at_265 rfl (n := 267) rfl ?_
                    refine icmp_eq P at_267 (n' := 272) (n := 270) (by decide) rfl (fun hc267 => ?_) (fun hc267 => ?_)
                    · -- pc 267 taken
                      replace hc267 : (1 : Int) = (1 : Int) := hc267
                      refine aload P at_272 rfl rfl (n := 274) rfl ?_
                      refine iload P at_274 rfl (n := 276) rfl ?_
                      refine callV P at_276 (a := b151) (argsL := [(.int (1 : Int32))]) (rest := []) (c_after l Z a0 hw b151 (1 : Int32) (3 : Int32) (4 : Int32) (own_tab [1, 0, 1, 1, 0, 0]) (own_tab [1, 0, 0, 2, 0, 0]) h174 n0 P.low O175 (by decide)) (own_OS_exa O175) (hw _ (List.mem_of_getElem? (i := 69) rfl)) (hw _ (List.mem_of_getElem? (i := 70) rfl)) (notFace_of_selects (args := #[]) (mvT P.hZ (hw _ (List.mem_of_getElem? (i := 72) rfl)))) (hw _ (List.mem_of_getElem? (i := 72) rfl)) (hw _ (List.mem_of_getElem? (i := 71) rfl)) (hw _ (List.mem_of_getElem? (i := 3) rfl)) (hw _ (List.mem_of_getElem? (i := 73) rfl)) (by decide) pd_4 rfl rfl rfl ⟨by decide, Nat.le_of_ble_eq_true rfl, by decide, by decide⟩ (n := 279) rfl (Ret.on ?_)
                      intro T P
                      rw [show (own_tab [1, 0, 0, 2, 0, 0]) (1 : Int32).toInt.toNat = (0 : Int32) from rfl]
                      refine if0_eq P at_279 (n' := 284) (n := 282) (by decide) rfl (fun hc279 => ?_) (fun hc279 => ?_)
                      · -- pc 279 taken
                        replace hc279 : (0 : Int) = (0 : Int) := hc279
                        refine aload P at_284 rfl rfl (n := 286) rfl ?_
                        refine ldc2J P at_286 (hw _ (List.mem_of_getElem? (i := 74) rfl)) (n := 289) rfl ?_
                        refine iconst P at_289 (x := (1 : Int32)) rfl (n := 290) rfl ?_
                        refine ldc2J P at_290 (hw _ (List.mem_of_getElem? (i := 75) rfl)) (n := 293) rfl ?_
                        refine iconst P at_293 (x := (0 : Int32)) rfl (n := 294) rfl ?_
                        refine iconst P at_294 (x := (4 : Int32)) rfl (n := 295) rfl ?_
                        refine callV P at_295 (a := b151) (argsL := [(.long (40 : Int64)), (.int (1 : Int32)), (.long (3 : Int64)), (.int (0 : Int32)), (.int (4 : Int32))]) (rest := []) (c_open l Z a0 hw b151 (40 : Int64) (1 : Int32) (3 : Int64) (0 : Int32) (4 : Int32) (3 : Int32) (4 : Int32) (own_tab [1, 0, 1, 1, 0, 0]) (own_tab [1, 0, 0, 2, 0, 0]) h174 n0 P.low O175 (by decide) (by decide) (by decide)) (own_OS_exa O175) (hw _ (List.mem_of_getElem? (i := 43) rfl)) (hw _ (List.mem_of_getElem? (i := 44) rfl)) (notFace_of_selects (args := #[]) (mvT P.hZ (hw _ (List.mem_of_getElem? (i := 46) rfl)))) (hw _ (List.mem_of_getElem? (i := 46) rfl)) (hw _ (List.mem_of_getElem? (i := 45) rfl)) (hw _ (List.mem_of_getElem? (i := 3) rfl)) (hw _ (List.mem_of_getElem? (i := 47) rfl)) (by decide) pd_2 rfl rfl rfl ⟨by decide, Nat.le_of_ble_eq_true rfl, by decide, by decide⟩ (n := 298) rfl ?_
                        rintro T h179 v P hq
                        obtain ⟨rfl, O180⟩ := hq.2 (by decide)
                        show Jvm.Own.Ends p e below s room_1 n0 (fun v _ => v = some (.int 1)) T (mkF m 298 #[.val (.int u), .val (.int w), .val (.int (1 : Int32)), .val (.int (1 : Int32)), .val (.int (1 : Int32)), .val (.int (2 : Int32)), .val (.int (0 : Int32)), .val (.int (2 : Int32)), .val (.int (3 : Int32)), .val (.int (1 : Int32)), .val (.int (1 : Int32)), .val (.int (3 : Int32)), .val (.ref b151), .val (.int (1 : Int32)), .val (.int (2 : Int32)), .val (.int (3 : Int32))] [(.int (3 : Int32))])
                        have t181 : (ovr (ovr (own_tab [1, 0, 1, 1, 0, 0]) (3 : Int32).toInt.toNat ((own_tab [1, 0, 1, 1, 0, 0]) 0)) 0 (3 : Int32)) = own_tab [3, 0, 1, 1, 0, 0] := by rw [own_tab_set [1, 0, 1, 1, 0, 0] (3 : Int32).toInt.toNat ((own_tab [1, 0, 1, 1, 0, 0]) 0) (by decide), own_tab_set ([1, 0, 1, 1, 0, 0].set (3 : Int32).toInt.toNat ((own_tab [1, 0, 1, 1, 0, 0]) 0)) 0 (3 : Int32) (by decide)]; rfl
                        rw [t181] at O180
                        have t182 : (ovr (ovr (own_tab [1, 0, 0, 2, 0, 0]) (3 : Int32).toInt.toNat 0) ((own_tab [1, 0, 1, 1, 0, 0]) 0).toInt.toNat (3 : Int32)) = own_tab [1, 3, 0, 0, 0, 0] := by rw [own_tab_set [1, 0, 0, 2, 0, 0] (3 : Int32).toInt.toNat 0 (by decide), own_tab_set ([1, 0, 0, 2, 0, 0].set (3 : Int32).toInt.toNat 0) ((own_tab [1, 0, 1, 1, 0, 0]) 0).toInt.toNat (3 : Int32) (by decide)]; rfl
                        rw [t182] at O180
                        replace O180 : own_OS Z n0 h179 b151 (2 : Int32) (4 : Int32) (own_tab [3, 0, 1, 1, 0, 0]) (own_tab [1, 3, 0, 0, 0, 0]) := O180
                        refine iload P at_298 rfl (n := 300) rfl ?_
                        refine icmp_eq P at_300 (n' := 305) (n := 303) (by decide) rfl (fun hc300 => ?_) (fun hc300 => ?_)
                        · -- pc 300 taken
                          replace hc300 : (3 : Int) = (3 : Int) := hc300
                          refine aload P at_305 rfl rfl (n := 307) rfl ?_
                          refine ldc2J P at_307 (hw _ (List.mem_of_getElem? (i := 76) rfl)) (n := 310) rfl ?_
                          refine iconst P at_310 (x := (1 : Int32)) rfl (n := 311) rfl ?_
                          refine ldc2J P at_311 (hw _ (List.mem_of_getElem? (i := 77) rfl)) (n := 314) rfl ?_
                          refine iconst P at_314 (x := (0 : Int32)) rfl (n := 315) rfl ?_
                          refine iconst P at_315 (x := (5 : Int32)) rfl (n := 316) rfl ?_
                          refine callV P at_316 (a := b151) (argsL := [(.long (50 : Int64)), (.int (1 : Int32)), (.long (4 : Int64)), (.int (0 : Int32)), (.int (5 : Int32))]) (rest := []) (c_open l Z a0 hw b151 (50 : Int64) (1 : Int32) (4 : Int64) (0 : Int32) (5 : Int32) (2 : Int32) (4 : Int32) (own_tab [3, 0, 1, 1, 0, 0]) (own_tab [1, 3, 0, 0, 0, 0]) h179 n0 P.low O180 (by decide) (by decide) (by decide)) (own_OS_exa O180) (hw _ (List.mem_of_getElem? (i := 43) rfl)) (hw _ (List.mem_of_getElem? (i := 44) rfl)) (notFace_of_selects (args := #[]) (mvT P.hZ (hw _ (List.mem_of_getElem? (i := 46) rfl)))) (hw _ (List.mem_of_getElem? (i := 46) rfl)) (hw _ (List.mem_of_getElem? (i := 45) rfl)) (hw _ (List.mem_of_getElem? (i := 3) rfl)) (hw _ (List.mem_of_getElem? (i := 47) rfl)) (by decide) pd_2 rfl rfl rfl ⟨by decide, Nat.le_of_ble_eq_true rfl, by decide, by decide⟩ (n := 319) rfl ?_
                          rintro T h183 v P hq
                          obtain ⟨rfl, O184⟩ := hq.2 (by decide)
                          show Jvm.Own.Ends p e below s room_1 n0 (fun v _ => v = some (.int 1)) T (mkF m 319 #[.val (.int u), .val (.int w), .val (.int (1 : Int32)), .val (.int (1 : Int32)), .val (.int (1 : Int32)), .val (.int (2 : Int32)), .val (.int (0 : Int32)), .val (.int (2 : Int32)), .val (.int (3 : Int32)), .val (.int (1 : Int32)), .val (.int (1 : Int32)), .val (.int (3 : Int32)), .val (.ref b151), .val (.int (1 : Int32)), .val (.int (2 : Int32)), .val (.int (3 : Int32))] [(.int (2 : Int32))])
                          have t185 : (ovr (ovr (own_tab [3, 0, 1, 1, 0, 0]) (2 : Int32).toInt.toNat ((own_tab [3, 0, 1, 1, 0, 0]) 0)) 0 (2 : Int32)) = own_tab [2, 0, 3, 1, 0, 0] := by rw [own_tab_set [3, 0, 1, 1, 0, 0] (2 : Int32).toInt.toNat ((own_tab [3, 0, 1, 1, 0, 0]) 0) (by decide), own_tab_set ([3, 0, 1, 1, 0, 0].set (2 : Int32).toInt.toNat ((own_tab [3, 0, 1, 1, 0, 0]) 0)) 0 (2 : Int32) (by decide)]; rfl
                          rw [t185] at O184
                          have t186 : (ovr (ovr (own_tab [1, 3, 0, 0, 0, 0]) (2 : Int32).toInt.toNat 0) ((own_tab [3, 0, 1, 1, 0, 0]) 0).toInt.toNat (2 : Int32)) = own_tab [1, 3, 0, 2, 0, 0] := by rw [own_tab_set [1, 3, 0, 0, 0, 0] (2 : Int32).toInt.toNat 0 (by decide), own_tab_set ([1, 3, 0, 0, 0, 0].set (2 : Int32).toInt.toNat 0) ((own_tab [3, 0, 1, 1, 0, 0]) 0).toInt.toNat (2 : Int32) (by decide)]; rfl
                          rw [t186] at O184
                          replace O184 : own_OS Z n0 h183 b151 (0 : Int32) (4 : Int32) (own_tab [2, 0, 3, 1, 0, 0]) (own_tab [1, 3, 0, 2, 0, 0]) := O184
                          refine iload P at_319 rfl (n := 321) rfl ?_
                          refine icmp_ne P at_321 (n' := 328) (n := 324) (by decide) rfl (fun hc321 => ?_) (fun hc321 => ?_)
                          · -- pc 321 taken
                            replace hc321 : ¬ (2 : Int) = (2 : Int) := hc321
                            exact absurd hc321 (by decide)
                          · -- pc 321 not taken
                            replace hc321 : (2 : Int) = (2 : Int) := hc321
                            refine iconst P at_324 (x := (1 : Int32)) rfl (n := 325) rfl ?_
                            refine goto P at_325 (n := 329) (by decide) ?_
                            refine retZ P at_329 (by decide) (by decide) (by decide) ?_
                            exact rfl
                        · -- pc 300 not taken
                          replace hc300 : ¬ (3 : Int) = (3 : Int) := hc300
                          exact absurd hc300 (by decide)
                      · -- pc 279 not taken
                        replace hc279 : ¬ (0 : Int) = (0 : Int) := hc279
                        exact absurd hc279 (by decide)
                    · -- pc 267 not taken
                      replace hc267 : ¬ (1 : Int) = (1 : Int) := hc267
                      exact absurd hc267 (by decide)
                  · -- pc 165 not taken
                    replace hc165 : (1 : Int) = (0 : Int) := hc165
                    exact absurd hc165 (by decide)
                · -- pc 152 not taken
                  replace hc152 : ¬ (3 : Int) = (3 : Int) := hc152
                  exact absurd hc152 (by decide)
          · -- pc 74 not taken
            replace hc74 : (1 : Int) = (2 : Int) := hc74
            exact absurd hc74 (by decide)
        · -- pc 62 not taken
          replace hc62 : (1 : Int) = (0 : Int) := hc62
          exact absurd hc62 (by decide)
      ·
        obtain rfl : z150 = (2 : Int32) := eqI q26
        refine istore P at_26 (l' := #[.val (.int u), .val (.int w), .val (.int (1 : Int32)), .val (.int (1 : Int32)), .val (.int (2 : Int32)), .unset, .unset, .unset, .unset, .unset, .unset, .unset, .unset, .unset, .unset, .unset]) rfl (n := 28) rfl ?_
        refine iloadN P at_28 rfl (n := 29) rfl ?_
        refine iload P at_29 rfl (n := 31) rfl ?_
        refine iadd P at_31 (n := 32) rfl ?_
        rw [show ((1 : Int32) + (2 : Int32)) = (3 : Int32) from by decide]
        refine iconst P at_32 (x := (3 : Int32)) rfl (n := 33) rfl ?_
        refine irem P at_33 (by decide) (n := 34) rfl ?_
        rw [show ((3 : Int32) % (3 : Int32)) = (0 : Int32) from by decide]
        refine istore P at_34 (l' := #[.val (.int u), .val (.int w), .val (.int (1 : Int32)), .val (.int (1 : Int32)), .val (.int (2 : Int32)), .val (.int (0 : Int32)), .unset, .unset, .unset, .unset, .unset, .unset, .unset, .unset, .unset, .unset]) rfl (n := 36) rfl ?_
        refine iconst P at_36 (x := (3 : Int32)) rfl (n := 37) rfl ?_
        refine iloadN P at_37 rfl (n := 38) rfl ?_
        refine isub P at_38 (n := 39) rfl ?_
        rw [show ((3 : Int32) - (1 : Int32)) = (2 : Int32) from by decide]
        refine iload P at_39 rfl (n := 41) rfl ?_
        refine isub P at_41 (n := 42) rfl ?_
        rw [show ((2 : Int32) - (0 : Int32)) = (2 : Int32) from by decide]
        refine istore P at_42 (l' := #[.val (.int u), .val (.int w), .val (.int (1 : Int32)), .val (.int (1 : Int32)), .val (.int (2 : Int32)), .val (.int (0 : Int32)), .val (.int (2 : Int32)), .unset, .unset, .unset, .unset, .unset, .unset, .unset, .unset, .unset]) rfl (n := 44) rfl ?_
        refine iloadN P at_44 rfl (n := 45) rfl ?_
        refine iconst P at_45 (x := (1 : Int32)) rfl (n := 46) rfl ?_
        refine iadd P at_46 (n := 47) rfl ?_
        rw [show ((1 : Int32) + (1 : Int32)) = (2 : Int32) from by decide]
        refine istore P at_47 (l' := #[.val (.int u), .val (.int w), .val (.int (1 : Int32)), .val (.int (1 : Int32)), .val (.int (2 : Int32)), .val (.int (0 : Int32)), .val (.int (2 : Int32)), .val (.int (2 : Int32)), .unset, .unset, .unset, .unset, .unset, .unset, .unset, .unset]) rfl (n := 49) rfl ?_
        refine iload P at_49 rfl (n := 51) rfl ?_
        refine iconst P at_51 (x := (1 : Int32)) rfl (n := 52) rfl ?_
        refine iadd P at_52 (n := 53) rfl ?_
        rw [show ((0 : Int32) + (1 : Int32)) = (1 : Int32) from by decide]
        refine istore P at_53 (l' := #[.val (.int u), .val (.int w), .val (.int (1 : Int32)), .val (.int (1 : Int32)), .val (.int (2 : Int32)), .val (.int (0 : Int32)), .val (.int (2 : Int32)), .val (.int (2 : Int32)), .val (.int (1 : Int32)), .unset, .unset, .unset, .unset, .unset, .unset, .unset]) rfl (n := 55) rfl ?_
        refine iload P at_55 rfl (n := 57) rfl ?_
        refine iconst P at_57 (x := (1 : Int32)) rfl (n := 58) rfl ?_
        refine iadd P at_58 (n := 59) rfl ?_
        rw [show ((2 : Int32) + (1 : Int32)) = (3 : Int32) from by decide]
        refine istore P at_59 (l' := #[.val (.int u), .val (.int w), .val (.int (1 : Int32)), .val (.int (1 : Int32)), .val (.int (2 : Int32)), .val (.int (0 : Int32)), .val (.int (2 : Int32)), .val (.int (2 : Int32)), .val (.int (1 : Int32)), .val (.int (3 : Int32)), .unset, .unset, .unset, .unset, .unset, .unset]) rfl (n := 61) rfl ?_
        refine iloadN P at_61 rfl (n := 62) rfl ?_
        refine if0_ne P at_62 (n' := 69) (n := 65) (by decide) rfl (fun hc62 => ?_) (fun hc62 => ?_)
        · -- pc 62 taken
          replace hc62 : ¬ (1 : Int) = (0 : Int) := hc62
          refine iconst P at_69 (x := (1 : Int32)) rfl (n := 70) rfl ?_
          refine istore P at_70 (l' := #[.val (.int u), .val (.int w), .val (.int (1 : Int32)), .val (.int (1 : Int32)), .val (.int (2 : Int32)), .val (.int (0 : Int32)), .val (.int (2 : Int32)), .val (.int (2 : Int32)), .val (.int (1 : Int32)), .val (.int (3 : Int32)), .val (.int (1 : Int32)), .unset, .unset, .unset, .unset, .unset]) rfl (n := 72) rfl ?_
          refine iloadN P at_72 rfl (n := 73) rfl ?_
          refine iconst P at_73 (x := (2 : Int32)) rfl (n := 74) rfl ?_
          refine icmp_ne P at_74 (n' := 81) (n := 77) (by decide) rfl (fun hc74 => ?_) (fun hc74 => ?_)
          · -- pc 74 taken
            replace hc74 : ¬ (1 : Int) = (2 : Int) := hc74
            refine iconst P at_81 (x := (3 : Int32)) rfl (n := 82) rfl ?_
            refine istore P at_82 (l' := #[.val (.int u), .val (.int w), .val (.int (1 : Int32)), .val (.int (1 : Int32)), .val (.int (2 : Int32)), .val (.int (0 : Int32)), .val (.int (2 : Int32)), .val (.int (2 : Int32)), .val (.int (1 : Int32)), .val (.int (3 : Int32)), .val (.int (1 : Int32)), .val (.int (3 : Int32)), .unset, .unset, .unset, .unset]) rfl (n := 84) rfl ?_
            refine newO P at_84 (hw _ (List.mem_of_getElem? (i := 1) rfl)) (hw _ (List.mem_of_getElem? (i := 2) rfl)) (hw _ (List.mem_of_getElem? (i := 3) rfl)) (by decide) (by decide) (n := 87) rfl ?_
            intro T h188 b187 P X189 g190 lo_b187 E_b187 D_b187
            have F_b187_ids := D_b187 (Or.inl (hw _ (List.mem_of_getElem? (i := 12) rfl))) (ty := (.array .long)) (by decide)
            have F_b187_ordinals := D_b187 (Or.inl (hw _ (List.mem_of_getElem? (i := 15) rfl))) (ty := (.array .int)) (by decide)
            have F_b187_firstSeconds := D_b187 (Or.inl (hw _ (List.mem_of_getElem? (i := 17) rfl))) (ty := (.array .long)) (by decide)
            have F_b187_firstNanos := D_b187 (Or.inl (hw _ (List.mem_of_getElem? (i := 19) rfl))) (ty := (.array .int)) (by decide)
            have F_b187_lastSeconds := D_b187 (Or.inl (hw _ (List.mem_of_getElem? (i := 21) rfl))) (ty := (.array .long)) (by decide)
            have F_b187_lastNanos := D_b187 (Or.inl (hw _ (List.mem_of_getElem? (i := 23) rfl))) (ty := (.array .int)) (by decide)
            have F_b187_records := D_b187 (Or.inl (hw _ (List.mem_of_getElem? (i := 25) rfl))) (ty := (.array .long)) (by decide)
            have F_b187_entities := D_b187 (Or.inl (hw _ (List.mem_of_getElem? (i := 27) rfl))) (ty := (.array .int)) (by decide)
            have F_b187_others := D_b187 (Or.inl (hw _ (List.mem_of_getElem? (i := 31) rfl))) (ty := (.array (.array .int))) (by decide)
            have F_b187_otherCounts := D_b187 (Or.inl (hw _ (List.mem_of_getElem? (i := 33) rfl))) (ty := (.array .int)) (by decide)
            have F_b187_earlier := D_b187 (Or.inl (hw _ (List.mem_of_getElem? (i := 35) rfl))) (ty := (.array .int)) (by decide)
            have F_b187_later := D_b187 (Or.inl (hw _ (List.mem_of_getElem? (i := 37) rfl))) (ty := (.array .int)) (by decide)
            have F_b187_unused := D_b187 (Or.inl (hw _ (List.mem_of_getElem? (i := 39) rfl))) (ty := .int) (by decide)
            have F_b187_used := D_b187 (Or.inl (hw _ (List.mem_of_getElem? (i := 41) rfl))) (ty := .int) (by decide)
            refine dup P at_87 rfl (n := 88) rfl ?_
            refine callN P at_88 (a := b187) (argsL := []) (rest := [(.ref b187)]) (c_new l Z a0 hw b187 h188 n0 P.low E_b187 F_b187_unused F_b187_used F_b187_ids F_b187_ordinals F_b187_firstSeconds F_b187_firstNanos F_b187_lastSeconds F_b187_lastNanos F_b187_records F_b187_entities F_b187_others F_b187_otherCounts F_b187_earlier F_b187_later lo_b187) rfl (hw _ (List.mem_of_getElem? (i := 4) rfl)) (hw _ (List.mem_of_getElem? (i := 5) rfl)) (hw _ (List.mem_of_getElem? (i := 3) rfl)) (hw _ (List.mem_of_getElem? (i := 6) rfl)) (by decide) pd_1 rfl rfl rfl ⟨by decide, Nat.le_of_ble_eq_true rfl, by decide, by decide⟩ (n := 91) rfl ?_
            rintro T h191 v P ⟨rfl, O192⟩
            show Jvm.Own.Ends p e below s room_1 n0 (fun v _ => v = some (.int 1)) T (mkF m 91 #[.val (.int u), .val (.int w), .val (.int (1 : Int32)), .val (.int (1 : Int32)), .val (.int (2 : Int32)), .val (.int (0 : Int32)), .val (.int (2 : Int32)), .val (.int (2 : Int32)), .val (.int (1 : Int32)), .val (.int (3 : Int32)), .val (.int (1 : Int32)), .val (.int (3 : Int32)), .unset, .unset, .unset, .unset] [(.ref b187)])
            rw [own_tab0] at O192
            replace O192 : own_OS Z n0 h191 b187 (0 : Int32) (1 : Int32) (own_tab [0, 0, 0, 0, 0, 0]) (own_tab [0, 0, 0, 0, 0, 0]) := O192
            refine astore P at_91 rfl (l' := #[.val (.int u), .val (.int w), .val (.int (1 : Int32)), .val (.int (1 : Int32)), .val (.int (2 : Int32)), .val (.int (0 : Int32)), .val (.int (2 : Int32)), .val (.int (2 : Int32)), .val (.int (1 : Int32)), .val (.int (3 : Int32)), .val (.int (1 : Int32)), .val (.int (3 : Int32)), .val (.ref b187), .unset, .unset, .unset]) rfl (n := 93) rfl ?_
            refine aload P at_93 rfl rfl (n := 95) rfl ?_
            refine ldc2J P at_95 (hw _ (List.mem_of_getElem? (i := 42) rfl)) (n := 98) rfl ?_
            refine iconst P at_98 (x := (1 : Int32)) rfl (n := 99) rfl ?_
            refine lconst P at_99 (x := (0 : Int64)) rfl (n := 100) rfl ?_
            refine iconst P at_100 (x := (0 : Int32)) rfl (n := 101) rfl ?_
            refine iconst P at_101 (x := (1 : Int32)) rfl (n := 102) rfl ?_
            refine callV P at_102 (a := b187) (argsL := [(.long (10 : Int64)), (.int (1 : Int32)), (.long (0 : Int64)), (.int (0 : Int32)), (.int (1 : Int32))]) (rest := []) (c_open l Z a0 hw b187 (10 : Int64) (1 : Int32) (0 : Int64) (0 : Int32) (1 : Int32) (0 : Int32) (1 : Int32) (own_tab [0, 0, 0, 0, 0, 0]) (own_tab [0, 0, 0, 0, 0, 0]) h191 n0 P.low O192 (by decide) (by decide) (by decide)) (own_OS_exa O192) (hw _ (List.mem_of_getElem? (i := 43) rfl)) (hw _ (List.mem_of_getElem? (i := 44) rfl)) (notFace_of_selects (args := #[]) (mvT P.hZ (hw _ (List.mem_of_getElem? (i := 46) rfl)))) (hw _ (List.mem_of_getElem? (i := 46) rfl)) (hw _ (List.mem_of_getElem? (i := 45) rfl)) (hw _ (List.mem_of_getElem? (i := 3) rfl)) (hw _ (List.mem_of_getElem? (i := 47) rfl)) (by decide) pd_2 rfl rfl rfl ⟨by decide, Nat.le_of_ble_eq_true rfl, by decide, by decide⟩ (n := 105) rfl ?_
            rintro T h193 v P hq
            obtain ⟨rfl, O194⟩ := hq.1 (by decide)
            show Jvm.Own.Ends p e below s room_1 n0 (fun v _ => v = some (.int 1)) T (mkF m 105 #[.val (.int u), .val (.int w), .val (.int (1 : Int32)), .val (.int (1 : Int32)), .val (.int (2 : Int32)), .val (.int (0 : Int32)), .val (.int (2 : Int32)), .val (.int (2 : Int32)), .val (.int (1 : Int32)), .val (.int (3 : Int32)), .val (.int (1 : Int32)), .val (.int (3 : Int32)), .val (.ref b187), .unset, .unset, .unset] [(.int (1 : Int32))])
            have t195 : (ovr (ovr (own_tab [0, 0, 0, 0, 0, 0]) (1 : Int32).toInt.toNat ((own_tab [0, 0, 0, 0, 0, 0]) 0)) 0 (1 : Int32)) = own_tab [1, 0, 0, 0, 0, 0] := by rw [own_tab_set [0, 0, 0, 0, 0, 0] (1 : Int32).toInt.toNat ((own_tab [0, 0, 0, 0, 0, 0]) 0) (by decide), own_tab_set ([0, 0, 0, 0, 0, 0].set (1 : Int32).toInt.toNat ((own_tab [0, 0, 0, 0, 0, 0]) 0)) 0 (1 : Int32) (by decide)]; rfl
            rw [t195] at O194
            have t196 : (ovr (ovr (own_tab [0, 0, 0, 0, 0, 0]) (1 : Int32).toInt.toNat 0) ((own_tab [0, 0, 0, 0, 0, 0]) 0).toInt.toNat (1 : Int32)) = own_tab [1, 0, 0, 0, 0, 0] := by rw [own_tab_set [0, 0, 0, 0, 0, 0] (1 : Int32).toInt.toNat 0 (by decide), own_tab_set ([0, 0, 0, 0, 0, 0].set (1 : Int32).toInt.toNat 0) ((own_tab [0, 0, 0, 0, 0, 0]) 0).toInt.toNat (1 : Int32) (by decide)]; rfl
            rw [t196] at O194
            replace O194 : own_OS Z n0 h193 b187 (0 : Int32) (2 : Int32) (own_tab [1, 0, 0, 0, 0, 0]) (own_tab [1, 0, 0, 0, 0, 0]) := O194
            refine istore P at_105 (l' := #[.val (.int u), .val (.int w), .val (.int (1 : Int32)), .val (.int (1 : Int32)), .val (.int (2 : Int32)), .val (.int (0 : Int32)), .val (.int (2 : Int32)), .val (.int (2 : Int32)), .val (.int (1 : Int32)), .val (.int (3 : Int32)), .val (.int (1 : Int32)), .val (.int (3 : Int32)), .val (.ref b187), .val (.int (1 : Int32)), .unset, .unset]) rfl (n := 107) rfl ?_
            refine aload P at_107 rfl rfl (n := 109) rfl ?_
            refine ldc2J P at_109 (hw _ (List.mem_of_getElem? (i := 52) rfl)) (n := 112) rfl ?_
            refine iconst P at_112 (x := (1 : Int32)) rfl (n := 113) rfl ?_
            refine lconst P at_113 (x := (1 : Int64)) rfl (n := 114) rfl ?_
            refine iconst P at_114 (x := (0 : Int32)) rfl (n := 115) rfl ?_
            refine iconst P at_115 (x := (2 : Int32)) rfl (n := 116) rfl ?_
            refine callV P at_116 (a := b187) (argsL := [(.long (20 : Int64)), (.int (1 : Int32)), (.long (1 : Int64)), (.int (0 : Int32)), (.int (2 : Int32))]) (rest := []) (c_open l Z a0 hw b187 (20 : Int64) (1 : Int32) (1 : Int64) (0 : Int32) (2 : Int32) (0 : Int32) (2 : Int32) (own_tab [1, 0, 0, 0, 0, 0]) (own_tab [1, 0, 0, 0, 0, 0]) h193 n0 P.low O194 (by decide) (by decide) (by decide)) (own_OS_exa O194) (hw _ (List.mem_of_getElem? (i := 43) rfl)) (hw _ (List.mem_of_getElem? (i := 44) rfl)) (notFace_of_selects (args := #[]) (mvT P.hZ (hw _ (List.mem_of_getElem? (i := 46) rfl)))) (hw _ (List.mem_of_getElem? (i := 46) rfl)) (hw _ (List.mem_of_getElem? (i := 45) rfl)) (hw _ (List.mem_of_getElem? (i := 3) rfl)) (hw _ (List.mem_of_getElem? (i := 47) rfl)) (by decide) pd_2 rfl rfl rfl ⟨by decide, Nat.le_of_ble_eq_true rfl, by decide, by decide⟩ (n := 119) rfl ?_
            rintro T h197 v P hq
            obtain ⟨rfl, O198⟩ := hq.1 (by decide)
            show Jvm.Own.Ends p e below s room_1 n0 (fun v _ => v = some (.int 1)) T (mkF m 119 #[.val (.int u), .val (.int w), .val (.int (1 : Int32)), .val (.int (1 : Int32)), .val (.int (2 : Int32)), .val (.int (0 : Int32)), .val (.int (2 : Int32)), .val (.int (2 : Int32)), .val (.int (1 : Int32)), .val (.int (3 : Int32)), .val (.int (1 : Int32)), .val (.int (3 : Int32)), .val (.ref b187), .val (.int (1 : Int32)), .unset, .unset] [(.int (2 : Int32))])
            have t199 : (ovr (ovr (own_tab [1, 0, 0, 0, 0, 0]) (2 : Int32).toInt.toNat ((own_tab [1, 0, 0, 0, 0, 0]) 0)) 0 (2 : Int32)) = own_tab [2, 0, 1, 0, 0, 0] := by rw [own_tab_set [1, 0, 0, 0, 0, 0] (2 : Int32).toInt.toNat ((own_tab [1, 0, 0, 0, 0, 0]) 0) (by decide), own_tab_set ([1, 0, 0, 0, 0, 0].set (2 : Int32).toInt.toNat ((own_tab [1, 0, 0, 0, 0, 0]) 0)) 0 (2 : Int32) (by decide)]; rfl
            rw [t199] at O198
            have t200 : (ovr (ovr (own_tab [1, 0, 0, 0, 0, 0]) (2 : Int32).toInt.toNat 0) ((own_tab [1, 0, 0, 0, 0, 0]) 0).toInt.toNat (2 : Int32)) = own_tab [1, 2, 0, 0, 0, 0] := by rw [own_tab_set [1, 0, 0, 0, 0, 0] (2 : Int32).toInt.toNat 0 (by decide), own_tab_set ([1, 0, 0, 0, 0, 0].set (2 : Int32).toInt.toNat 0) ((own_tab [1, 0, 0, 0, 0, 0]) 0).toInt.toNat (2 : Int32) (by decide)]; rfl
            rw [t200] at O198
            replace O198 : own_OS Z n0 h197 b187 (0 : Int32) (3 : Int32) (own_tab [2, 0, 1, 0, 0, 0]) (own_tab [1, 2, 0, 0, 0, 0]) := O198
            refine istore P at_119 (l' := #[.val (.int u), .val (.int w), .val (.int (1 : Int32)), .val (.int (1 : Int32)), .val (.int (2 : Int32)), .val (.int (0 : Int32)), .val (.int (2 : Int32)), .val (.int (2 : Int32)), .val (.int (1 : Int32)), .val (.int (3 : Int32)), .val (.int (1 : Int32)), .val (.int (3 : Int32)), .val (.ref b187), .val (.int (1 : Int32)), .val (.int (2 : Int32)), .unset]) rfl (n := 121) rfl ?_
            refine aload P at_121 rfl rfl (n := 123) rfl ?_
            refine ldc2J P at_123 (hw _ (List.mem_of_getElem? (i := 53) rfl)) (n := 126) rfl ?_
            refine iconst P at_126 (x := (1 : Int32)) rfl (n := 127) rfl ?_
            refine ldc2J P at_127 (hw _ (List.mem_of_getElem? (i := 54) rfl)) (n := 130) rfl ?_
            refine iconst P at_130 (x := (0 : Int32)) rfl (n := 131) rfl ?_
            refine iconst P at_131 (x := (3 : Int32)) rfl (n := 132) rfl ?_
            refine callV P at_132 (a := b187) (argsL := [(.long (30 : Int64)), (.int (1 : Int32)), (.long (2 : Int64)), (.int (0 : Int32)), (.int (3 : Int32))]) (rest := []) (c_open l Z a0 hw b187 (30 : Int64) (1 : Int32) (2 : Int64) (0 : Int32) (3 : Int32) (0 : Int32) (3 : Int32) (own_tab [2, 0, 1, 0, 0, 0]) (own_tab [1, 2, 0, 0, 0, 0]) h197 n0 P.low O198 (by decide) (by decide) (by decide)) (own_OS_exa O198) (hw _ (List.mem_of_getElem? (i := 43) rfl)) (hw _ (List.mem_of_getElem? (i := 44) rfl)) (notFace_of_selects (args := #[]) (mvT P.hZ (hw _ (List.mem_of_getElem? (i := 46) rfl)))) (hw _ (List.mem_of_getElem? (i := 46) rfl)) (hw _ (List.mem_of_getElem? (i := 45) rfl)) (hw _ (List.mem_of_getElem? (i := 3) rfl)) (hw _ (List.mem_of_getElem? (i := 47) rfl)) (by decide) pd_2 rfl rfl rfl ⟨by decide, Nat.le_of_ble_eq_true rfl, by decide, by decide⟩ (n := 135) rfl ?_
            rintro T h201 v P hq
            obtain ⟨rfl, O202⟩ := hq.1 (by decide)
            show Jvm.Own.Ends p e below s room_1 n0 (fun v _ => v = some (.int 1)) T (mkF m 135 #[.val (.int u), .val (.int w), .val (.int (1 : Int32)), .val (.int (1 : Int32)), .val (.int (2 : Int32)), .val (.int (0 : Int32)), .val (.int (2 : Int32)), .val (.int (2 : Int32)), .val (.int (1 : Int32)), .val (.int (3 : Int32)), .val (.int (1 : Int32)), .val (.int (3 : Int32)), .val (.ref b187), .val (.int (1 : Int32)), .val (.int (2 : Int32)), .unset] [(.int (3 : Int32))])
            have t203 : (ovr (ovr (own_tab [2, 0, 1, 0, 0, 0]) (3 : Int32).toInt.toNat ((own_tab [2, 0, 1, 0, 0, 0]) 0)) 0 (3 : Int32)) = own_tab [3, 0, 1, 2, 0, 0] := by rw [own_tab_set [2, 0, 1, 0, 0, 0] (3 : Int32).toInt.toNat ((own_tab [2, 0, 1, 0, 0, 0]) 0) (by decide), own_tab_set ([2, 0, 1, 0, 0, 0].set (3 : Int32).toInt.toNat ((own_tab [2, 0, 1, 0, 0, 0]) 0)) 0 (3 : Int32) (by decide)]; rfl
            rw [t203] at O202
            have t204 : (ovr (ovr (own_tab [1, 2, 0, 0, 0, 0]) (3 : Int32).toInt.toNat 0) ((own_tab [2, 0, 1, 0, 0, 0]) 0).toInt.toNat (3 : Int32)) = own_tab [1, 2, 3, 0, 0, 0] := by rw [own_tab_set [1, 2, 0, 0, 0, 0] (3 : Int32).toInt.toNat 0 (by decide), own_tab_set ([1, 2, 0, 0, 0, 0].set (3 : Int32).toInt.toNat 0) ((own_tab [2, 0, 1, 0, 0, 0]) 0).toInt.toNat (3 : Int32) (by decide)]; rfl
            rw [t204] at O202
            replace O202 : own_OS Z n0 h201 b187 (0 : Int32) (4 : Int32) (own_tab [3, 0, 1, 2, 0, 0]) (own_tab [1, 2, 3, 0, 0, 0]) := O202
            refine istore P at_135 (l' := #[.val (.int u), .val (.int w), .val (.int (1 : Int32)), .val (.int (1 : Int32)), .val (.int (2 : Int32)), .val (.int (0 : Int32)), .val (.int (2 : Int32)), .val (.int (2 : Int32)), .val (.int (1 : Int32)), .val (.int (3 : Int32)), .val (.int (1 : Int32)), .val (.int (3 : Int32)), .val (.ref b187), .val (.int (1 : Int32)), .val (.int (2 : Int32)), .val (.int (3 : Int32))]) rfl (n := 137) rfl ?_
            refine iload P at_137 rfl (n := 139) rfl ?_
            refine iconst P at_139 (x := (1 : Int32)) rfl (n := 140) rfl ?_
            refine icmp_ne P at_140 (n' := 155) (n := 143) (by decide) rfl (fun hc140 => ?_) (fun hc140 => ?_)
            · -- pc 140 taken
              replace hc140 : ¬ (1 : Int) = (1 : Int) := hc140
              exact absurd hc140 (by decide)
            · -- pc 140 not taken
              replace hc140 : (1 : Int) = (1 : Int) := hc140
              refine iload P at_143 rfl (n := 145) rfl ?_
              refine iconst P at_145 (x := (2 : Int32)) rfl (n := 146) rfl ?_
              refine icmp_ne P at_146 (n' := 155) (n := 149) (by decide) rfl (fun hc146 => ?_) (fun hc146 => ?_)
              · -- pc 146 taken
                replace hc146 : ¬ (2 : Int) = (2 : Int) := hc146
                exact absurd hc146 (by decide)
              · -- pc 146 not taken
                replace hc146 : (2 : Int) = (2 : Int) := hc146
                refine iload P at_149 rfl (n := 151) rfl ?_
                refine iconst P at_151 (x := (3 : Int32)) rfl (n := 152) rfl ?_
                refine icmp_eq P at_152 (n' := 157) (n := 155) (by decide) rfl (fun hc152 => ?_) (fun hc152 => ?_)
                · -- pc 152 taken
                  replace hc152 : (3 : Int) = (3 : Int) := hc152
                  refine aload P at_157 rfl rfl (n := 159) rfl ?_
                  refine iload P at_159 rfl (n := 161) rfl ?_
                  refine callV P at_161 (a := b187) (argsL := [(.int (2 : Int32))]) (rest := []) (c_end l Z a0 hw b187 (2 : Int32) (0 : Int32) (4 : Int32) (own_tab [3, 0, 1, 2, 0, 0]) (own_tab [1, 2, 3, 0, 0, 0]) h201 n0 P.low O202 (by decide) (by decide) (by decide) (by decide)) (own_OS_exa O202) (hw _ (List.mem_of_getElem? (i := 55) rfl)) (hw _ (List.mem_of_getElem? (i := 56) rfl)) (notFace_of_selects (args := #[]) (mvT P.hZ (hw _ (List.mem_of_getElem? (i := 58) rfl)))) (hw _ (List.mem_of_getElem? (i := 58) rfl)) (hw _ (List.mem_of_getElem? (i := 57) rfl)) (hw _ (List.mem_of_getElem? (i := 3) rfl)) (hw _ (List.mem_of_getElem? (i := 59) rfl)) (by decide) pd_0 rfl rfl rfl ⟨by decide, Nat.le_of_ble_eq_true rfl, by decide, by decide⟩ (n := 164) rfl ?_
                  rintro T h205 v P ⟨rfl, O206⟩
                  show Jvm.Own.Ends p e below s room_1 n0 (fun v _ => v = some (.int 1)) T (mkF m 164 #[.val (.int u), .val (.int w), .val (.int (1 : Int32)), .val (.int (1 : Int32)), .val (.int (2 : Int32)), .val (.int (0 : Int32)), .val (.int (2 : Int32)), .val (.int (2 : Int32)), .val (.int (1 : Int32)), .val (.int (3 : Int32)), .val (.int (1 : Int32)), .val (.int (3 : Int32)), .val (.ref b187), .val (.int (1 : Int32)), .val (.int (2 : Int32)), .val (.int (3 : Int32))] [])
                  have t207 : (ovr (own_tab [1, 2, 3, 0, 0, 0]) ((own_tab [3, 0, 1, 2, 0, 0]) (2 : Int32).toInt.toNat).toInt.toNat ((own_tab [1, 2, 3, 0, 0, 0]) (2 : Int32).toInt.toNat)) = own_tab [1, 3, 3, 0, 0, 0] := by rw [own_tab_set [1, 2, 3, 0, 0, 0] ((own_tab [3, 0, 1, 2, 0, 0]) (2 : Int32).toInt.toNat).toInt.toNat ((own_tab [1, 2, 3, 0, 0, 0]) (2 : Int32).toInt.toNat) (by decide)]; rfl
                  rw [t207] at O206
                  have t208 : (ovr (own_tab [1, 3, 3, 0, 0, 0]) (2 : Int32).toInt.toNat (0 : Int32)) = own_tab [1, 3, 0, 0, 0, 0] := by rw [own_tab_set [1, 3, 3, 0, 0, 0] (2 : Int32).toInt.toNat (0 : Int32) (by decide)]; rfl
                  rw [t208] at O206
                  have t209 : (ovr (own_tab [3, 0, 1, 2, 0, 0]) ((own_tab [1, 3, 3, 0, 0, 0]) (2 : Int32).toInt.toNat).toInt.toNat ((own_tab [3, 0, 1, 2, 0, 0]) (2 : Int32).toInt.toNat)) = own_tab [3, 0, 1, 1, 0, 0] := by rw [own_tab_set [3, 0, 1, 2, 0, 0] ((own_tab [1, 3, 3, 0, 0, 0]) (2 : Int32).toInt.toNat).toInt.toNat ((own_tab [3, 0, 1, 2, 0, 0]) (2 : Int32).toInt.toNat) (by decide)]; rfl
                  rw [t209] at O206
                  replace O206 : own_OS Z n0 h205 b187 (2 : Int32) (4 : Int32) (own_tab [3, 0, 1, 1, 0, 0]) (own_tab [1, 3, 0, 0, 0, 0]) := O206
                  refine iloadN P at_164 rfl (n := 165) rfl ?_
                  refine if0_ne P at_165 (n' := 253) (n := 168) (by decide) rfl (fun hc165 => ?_) (fun hc165 => ?_)
                  · -- pc 165 taken
                    replace hc165 : ¬ (1 : Int) = (0 : Int) := hc165
                    refine aload P at_253 rfl rfl (n := 255) rfl ?_
                    refine iload P at_255 rfl (n := 257) rfl ?_
                    refine callV P at_257 (a := b187) (argsL := [(.int (1 : Int32))]) (rest := []) (c_end l Z a0 hw b187 (1 : Int32) (2 : Int32) (4 : Int32) (own_tab [3, 0, 1, 1, 0, 0]) (own_tab [1, 3, 0, 0, 0, 0]) h205 n0 P.low O206 (by decide) (by decide) (by decide) (by decide)) (own_OS_exa O206) (hw _ (List.mem_of_getElem? (i := 55) rfl)) (hw _ (List.mem_of_getElem? (i := 56) rfl)) (notFace_of_selects (args := #[]) (mvT P.hZ (hw _ (List.mem_of_getElem? (i := 58) rfl)))) (hw _ (List.mem_of_getElem? (i := 58) rfl)) (hw _ (List.mem_of_getElem? (i := 57) rfl)) (hw _ (List.mem_of_getElem? (i := 3) rfl)) (hw _ (List.mem_of_getElem? (i := 59) rfl)) (by decide) pd_0 rfl rfl rfl ⟨by decide, Nat.le_of_ble_eq_true rfl, by decide, by decide⟩ (n := 260) rfl ?_
                    rintro T h210 v P ⟨rfl, O211⟩
                    show Jvm.Own.Ends p e below s room_1 n0 (fun v _ => v = some (.int 1)) T (mkF m 260 #[.val (.int u), .val (.int w), .val (.int (1 : Int32)), .val (.int (1 : Int32)), .val (.int (2 : Int32)), .val (.int (0 : Int32)), .val (.int (2 : Int32)), .val (.int (2 : Int32)), .val (.int (1 : Int32)), .val (.int (3 : Int32)), .val (.int (1 : Int32)), .val (.int (3 : Int32)), .val (.ref b187), .val (.int (1 : Int32)), .val (.int (2 : Int32)), .val (.int (3 : Int32))] [])
                    have t212 : (ovr (own_tab [1, 3, 0, 0, 0, 0]) ((own_tab [3, 0, 1, 1, 0, 0]) (1 : Int32).toInt.toNat).toInt.toNat ((own_tab [1, 3, 0, 0, 0, 0]) (1 : Int32).toInt.toNat)) = own_tab [3, 3, 0, 0, 0, 0] := by rw [own_tab_set [1, 3, 0, 0, 0, 0] ((own_tab [3, 0, 1, 1, 0, 0]) (1 : Int32).toInt.toNat).toInt.toNat ((own_tab [1, 3, 0, 0, 0, 0]) (1 : Int32).toInt.toNat) (by decide)]; rfl
                    rw [t212] at O211
                    have t213 : (ovr (own_tab [3, 3, 0, 0, 0, 0]) (1 : Int32).toInt.toNat (2 : Int32)) = own_tab [3, 2, 0, 0, 0, 0] := by rw [own_tab_set [3, 3, 0, 0, 0, 0] (1 : Int32).toInt.toNat (2 : Int32) (by decide)]; rfl
                    rw [t213] at O211
                    have t214 : (ovr (own_tab [3, 0, 1, 1, 0, 0]) ((own_tab [3, 3, 0, 0, 0, 0]) (1 : Int32).toInt.toNat).toInt.toNat ((own_tab [3, 0, 1, 1, 0, 0]) (1 : Int32).toInt.toNat)) = own_tab [3, 0, 1, 0, 0, 0] := by rw [own_tab_set [3, 0, 1, 1, 0, 0] ((own_tab [3, 3, 0, 0, 0, 0]) (1 : Int32).toInt.toNat).toInt.toNat ((own_tab [3, 0, 1, 1, 0, 0]) (1 : Int32).toInt.toNat) (by decide)]; rfl
                    rw [t214] at O211
                    replace O211 : own_OS Z n0 h210 b187 (1 : Int32) (4 : Int32) (own_tab [3, 0, 1, 0, 0, 0]) (own_tab [3, 2, 0, 0, 0, 0]) := O211
                    refine aload P at_260 rfl rfl (n := 262) rfl ?_
                    refine callV P at_262 (a := b187) (argsL := []) (rest := []) (c_first l Z a0 hw b187 (1 : Int32) (4 : Int32) (own_tab [3, 0, 1, 0, 0, 0]) (own_tab [3, 2, 0, 0, 0, 0]) h210 n0 P.low O211) (own_OS_exa O211) (hw _ (List.mem_of_getElem? (i := 64) rfl)) (hw _ (List.mem_of_getElem? (i := 65) rfl)) (notFace_of_selects (args := #[]) (mvT P.hZ (hw _ (List.mem_of_getElem? (i := 67) rfl)))) (hw _ (List.mem_of_getElem? (i := 67) rfl)) (hw _ (List.mem_of_getElem? (i := 66) rfl)) (hw _ (List.mem_of_getElem? (i := 3) rfl)) (hw _ (List.mem_of_getElem? (i := 68) rfl)) (by decide) pd_3 rfl rfl rfl ⟨by decide, Nat.le_of_ble_eq_true rfl, by decide, by decide⟩ (n := 265) rfl (Ret.on ?_)
                    intro T P
                    rw [show (own_tab [3, 2, 0, 0, 0, 0]) 0 = (3 : Int32) from rfl]
                    refine iload P at_265 rfl (n := 267) rfl ?_
                    refine icmp_eq P at_267 (n' := 272) (n := 270) (by decide) rfl (fun hc267 => ?_) (fun hc267 => ?_)
                    · -- pc 267 taken
                      replace hc267 : (3 : Int) = (3 : Int) := hc267
                      refine aload P at_272 rfl rfl (n := 274) rfl ?_
                      refine iload P at_274 rfl (n := 276) rfl ?_
                      refine callV P at_276 (a := b187) (argsL := [(.int (3 : Int32))]) (rest := []) (c_after l Z a0 hw b187 (3 : Int32) (1 : Int32) (4 : Int32) (own_tab [3, 0, 1, 0, 0, 0]) (own_tab [3, 2, 0, 0, 0, 0]) h210 n0 P.low O211 (by decide)) (own_OS_exa O211) (hw _ (List.mem_of_getElem? (i := 69) rfl)) (hw _ (List.mem_of_getElem? (i := 70) rfl)) (notFace_of_selects (args := #[]) (mvT P.hZ (hw _ (List.mem_of_getElem? (i := 72) rfl)))) (hw _ (List.mem_of_getElem? (i := 72) rfl)) (hw _ (List.mem_of_getElem? (i := 71) rfl)) (hw _ (List.mem_of_getElem? (i := 3) rfl)) (hw _ (List.mem_of_getElem? (i := 73) rfl)) (by decide) pd_4 rfl rfl rfl ⟨by decide, Nat.le_of_ble_eq_true rfl, by decide, by decide⟩ (n := 279) rfl (Ret.on ?_)
                      intro T P
                      rw [show (own_tab [3, 2, 0, 0, 0, 0]) (3 : Int32).toInt.toNat = (0 : Int32) from rfl]
                      refine if0_eq P at_279 (n' := 284) (n := 282) (by decide) rfl (fun hc279 => ?_) (fun hc279 => ?_)
                      · -- pc 279 taken
                        replace hc279 : (0 : Int) = (0 : Int) := hc279
                        refine aload P at_284 rfl rfl (n := 286) rfl ?_
                        refine ldc2J P at_286 (hw _ (List.mem_of_getElem? (i := 74) rfl)) (n := 289) rfl ?_
                        refine iconst P at_289 (x := (1 : Int32)) rfl (n := 290) rfl ?_
                        refine ldc2J P at_290 (hw _ (List.mem_of_getElem? (i := 75) rfl)) (n := 293) rfl ?_
                        refine iconst P at_293 (x := (0 : Int32)) rfl (n := 294) rfl ?_
                        refine iconst P at_294 (x := (4 : Int32)) rfl (n := 295) rfl ?_
                        refine callV P at_295 (a := b187) (argsL := [(.long (40 : Int64)), (.int (1 : Int32)), (.long (3 : Int64)), (.int (0 : Int32)), (.int (4 : Int32))]) (rest := []) (c_open l Z a0 hw b187 (40 : Int64) (1 : Int32) (3 : Int64) (0 : Int32) (4 : Int32) (1 : Int32) (4 : Int32) (own_tab [3, 0, 1, 0, 0, 0]) (own_tab [3, 2, 0, 0, 0, 0]) h210 n0 P.low O211 (by decide) (by decide) (by decide)) (own_OS_exa O211) (hw _ (List.mem_of_getElem? (i := 43) rfl)) (hw _ (List.mem_of_getElem? (i := 44) rfl)) (notFace_of_selects (args := #[]) (mvT P.hZ (hw _ (List.mem_of_getElem? (i := 46) rfl)))) (hw _ (List.mem_of_getElem? (i := 46) rfl)) (hw _ (List.mem_of_getElem? (i := 45) rfl)) (hw _ (List.mem_of_getElem? (i := 3) rfl)) (hw _ (List.mem_of_getElem? (i := 47) rfl)) (by decide) pd_2 rfl rfl rfl ⟨by decide, Nat.le_of_ble_eq_true rfl, by decide, by decide⟩ (n := 298) rfl ?_
                        rintro T h215 v P hq
                        obtain ⟨rfl, O216⟩ := hq.2 (by decide)
                        show Jvm.Own.Ends p e below s room_1 n0 (fun v _ => v = some (.int 1)) T (mkF m 298 #[.val (.int u), .val (.int w), .val (.int (1 : Int32)), .val (.int (1 : Int32)), .val (.int (2 : Int32)), .val (.int (0 : Int32)), .val (.int (2 : Int32)), .val (.int (2 : Int32)), .val (.int (1 : Int32)), .val (.int (3 : Int32)), .val (.int (1 : Int32)), .val (.int (3 : Int32)), .val (.ref b187), .val (.int (1 : Int32)), .val (.int (2 : Int32)), .val (.int (3 : Int32))] [(.int (1 : Int32))])
                        have t217 : (ovr (ovr (own_tab [3, 0, 1, 0, 0, 0]) (1 : Int32).toInt.toNat ((own_tab [3, 0, 1, 0, 0, 0]) 0)) 0 (1 : Int32)) = own_tab [1, 3, 1, 0, 0, 0] := by rw [own_tab_set [3, 0, 1, 0, 0, 0] (1 : Int32).toInt.toNat ((own_tab [3, 0, 1, 0, 0, 0]) 0) (by decide), own_tab_set ([3, 0, 1, 0, 0, 0].set (1 : Int32).toInt.toNat ((own_tab [3, 0, 1, 0, 0, 0]) 0)) 0 (1 : Int32) (by decide)]; rfl
                        rw [t217] at O216
                        have t218 : (ovr (ovr (own_tab [3, 2, 0, 0, 0, 0]) (1 : Int32).toInt.toNat 0) ((own_tab [3, 0, 1, 0, 0, 0]) 0).toInt.toNat (1 : Int32)) = own_tab [3, 0, 0, 1, 0, 0] := by rw [own_tab_set [3, 2, 0, 0, 0, 0] (1 : Int32).toInt.toNat 0 (by decide), own_tab_set ([3, 2, 0, 0, 0, 0].set (1 : Int32).toInt.toNat 0) ((own_tab [3, 0, 1, 0, 0, 0]) 0).toInt.toNat (1 : Int32) (by decide)]; rfl
                        rw [t218] at O216
                        replace O216 : own_OS Z n0 h215 b187 (2 : Int32) (4 : Int32) (own_tab [1, 3, 1, 0, 0, 0]) (own_tab [3, 0, 0, 1, 0, 0]) := O216
                        refine iload P at_298 rfl (n := 300) rfl ?_
                        refine icmp_eq P at_300 (n' := 305) (n := 303) (by decide) rfl (fun hc300 => ?_) (fun hc300 => ?_)
                        · -- pc 300 taken
                          replace hc300 : (1 : Int) = (1 : Int) := hc300
                          refine aload P at_305 rfl rfl (n := 307) rfl ?_
                          refine ldc2J P at_307 (hw _ (List.mem_of_getElem? (i := 76) rfl)) (n := 310) rfl ?_
                          refine iconst P at_310 (x := (1 : Int32)) rfl (n := 311) rfl ?_
                          refine ldc2J P at_311 (hw _ (List.mem_of_getElem? (i := 77) rfl)) (n := 314) rfl ?_
                          refine iconst P at_314 (x := (0 : Int32)) rfl (n := 315) rfl ?_
                          refine iconst P at_315 (x := (5 : Int32)) rfl (n := 316) rfl ?_
                          refine callV P at_316 (a := b187) (argsL := [(.long (50 : Int64)), (.int (1 : Int32)), (.long (4 : Int64)), (.int (0 : Int32)), (.int (5 : Int32))]) (rest := []) (c_open l Z a0 hw b187 (50 : Int64) (1 : Int32) (4 : Int64) (0 : Int32) (5 : Int32) (2 : Int32) (4 : Int32) (own_tab [1, 3, 1, 0, 0, 0]) (own_tab [3, 0, 0, 1, 0, 0]) h215 n0 P.low O216 (by decide) (by decide) (by decide)) (own_OS_exa O216) (hw _ (List.mem_of_getElem? (i := 43) rfl)) (hw _ (List.mem_of_getElem? (i := 44) rfl)) (notFace_of_selects (args := #[]) (mvT P.hZ (hw _ (List.mem_of_getElem? (i := 46) rfl)))) (hw _ (List.mem_of_getElem? (i := 46) rfl)) (hw _ (List.mem_of_getElem? (i := 45) rfl)) (hw _ (List.mem_of_getElem? (i := 3) rfl)) (hw _ (List.mem_of_getElem? (i := 47) rfl)) (by decide) pd_2 rfl rfl rfl ⟨by decide, Nat.le_of_ble_eq_true rfl, by decide, by decide⟩ (n := 319) rfl ?_
                          rintro T h219 v P hq
                          obtain ⟨rfl, O220⟩ := hq.2 (by decide)
                          show Jvm.Own.Ends p e below s room_1 n0 (fun v _ => v = some (.int 1)) T (mkF m 319 #[.val (.int u), .val (.int w), .val (.int (1 : Int32)), .val (.int (1 : Int32)), .val (.int (2 : Int32)), .val (.int (0 : Int32)), .val (.int (2 : Int32)), .val (.int (2 : Int32)), .val (.int (1 : Int32)), .val (.int (3 : Int32)), .val (.int (1 : Int32)), .val (.int (3 : Int32)), .val (.ref b187), .val (.int (1 : Int32)), .val (.int (2 : Int32)), .val (.int (3 : Int32))] [(.int (2 : Int32))])
                          have t221 : (ovr (ovr (own_tab [1, 3, 1, 0, 0, 0]) (2 : Int32).toInt.toNat ((own_tab [1, 3, 1, 0, 0, 0]) 0)) 0 (2 : Int32)) = own_tab [2, 3, 1, 0, 0, 0] := by rw [own_tab_set [1, 3, 1, 0, 0, 0] (2 : Int32).toInt.toNat ((own_tab [1, 3, 1, 0, 0, 0]) 0) (by decide), own_tab_set ([1, 3, 1, 0, 0, 0].set (2 : Int32).toInt.toNat ((own_tab [1, 3, 1, 0, 0, 0]) 0)) 0 (2 : Int32) (by decide)]; rfl
                          rw [t221] at O220
                          have t222 : (ovr (ovr (own_tab [3, 0, 0, 1, 0, 0]) (2 : Int32).toInt.toNat 0) ((own_tab [1, 3, 1, 0, 0, 0]) 0).toInt.toNat (2 : Int32)) = own_tab [3, 2, 0, 1, 0, 0] := by rw [own_tab_set [3, 0, 0, 1, 0, 0] (2 : Int32).toInt.toNat 0 (by decide), own_tab_set ([3, 0, 0, 1, 0, 0].set (2 : Int32).toInt.toNat 0) ((own_tab [1, 3, 1, 0, 0, 0]) 0).toInt.toNat (2 : Int32) (by decide)]; rfl
                          rw [t222] at O220
                          replace O220 : own_OS Z n0 h219 b187 (0 : Int32) (4 : Int32) (own_tab [2, 3, 1, 0, 0, 0]) (own_tab [3, 2, 0, 1, 0, 0]) := O220
                          refine iload P at_319 rfl (n := 321) rfl ?_
                          refine icmp_ne P at_321 (n' := 328) (n := 324) (by decide) rfl (fun hc321 => ?_) (fun hc321 => ?_)
                          · -- pc 321 taken
                            replace hc321 : ¬ (2 : Int) = (2 : Int) := hc321
                            exact absurd hc321 (by decide)
                          · -- pc 321 not taken
                            replace hc321 : (2 : Int) = (2 : Int) := hc321
                            refine iconst P at_324 (x := (1 : Int32)) rfl (n := 325) rfl ?_
                            refine goto P at_325 (n := 329) (by decide) ?_
                            refine retZ P at_329 (by decide) (by decide) (by decide) ?_
                            exact rfl
                        · -- pc 300 not taken
                          replace hc300 : ¬ (1 : Int) = (1 : Int) := hc300
                          exact absurd hc300 (by decide)
                      · -- pc 279 not taken
                        replace hc279 : ¬ (0 : Int) = (0 : Int) := hc279
                        exact absurd hc279 (by decide)
                    · -- pc 267 not taken
                      replace hc267 : ¬ (3 : Int) = (3 : Int) := hc267
                      exact absurd hc267 (by decide)
                  · -- pc 165 not taken
                    replace hc165 : (1 : Int) = (0 : Int) := hc165
                    exact absurd hc165 (by decide)
                · -- pc 152 not taken
                  replace hc152 : ¬ (3 : Int) = (3 : Int) := hc152
                  exact absurd hc152 (by decide)
          · -- pc 74 not taken
            replace hc74 : (1 : Int) = (2 : Int) := hc74
            exact absurd hc74 (by decide)
        · -- pc 62 not taken
          replace hc62 : (1 : Int) = (0 : Int) := hc62
          exact absurd hc62 (by decide)
  ·
    obtain rfl : z2 = (2 : Int32) := eqI q6
    refine istoreN P at_6 (l' := #[.val (.int u), .val (.int w), .val (.int (2 : Int32)), .unset, .unset, .unset, .unset, .unset, .unset, .unset, .unset, .unset, .unset, .unset, .unset, .unset]) rfl (n := 7) rfl ?_
    refine iloadN P at_7 rfl (n := 8) rfl ?_
    refine iconst P at_8 (x := (1 : Int32)) rfl (n := 9) rfl ?_
    refine iand P at_9 (n := 10) rfl ?_
    refine nameI (x := (w &&& (1 : Int32))) (F := fun z223 => Jvm.Own.Ends p e below s room_1 n0 (fun v _ => v = some (.int 1)) T (mkF m 10 #[.val (.int u), .val (.int w), .val (.int (2 : Int32)), .unset, .unset, .unset, .unset, .unset, .unset, .unset, .unset, .unset, .unset, .unset, .unset, .unset] [(.int z223)])) ?_
    intro z223 hz223
    have tz223 : z223.toInt = w.toInt % 2 := n_mask 1 hz223 rfl (by decide)
    refine if0_eq P at_10 (n' := 17) (n := 13) (by decide) rfl (fun hc10 => ?_) (fun hc10 => ?_)
    · -- pc 10 taken
      replace hc10 : z223.toInt = (0 : Int) := hc10
      refine iconst P at_17 (x := (0 : Int32)) rfl (n := 18) rfl ?_
      refine istoreN P at_18 (l' := #[.val (.int u), .val (.int w), .val (.int (2 : Int32)), .val (.int (0 : Int32)), .unset, .unset, .unset, .unset, .unset, .unset, .unset, .unset, .unset, .unset, .unset, .unset]) rfl (n := 19) rfl ?_
      refine iloadN P at_19 rfl (n := 20) rfl ?_
      refine iconst P at_20 (x := (1 : Int32)) rfl (n := 21) rfl ?_
      refine iushr P at_21 (n := 22) rfl ?_
      refine nameI (x := ((w.toUInt32 >>> ((1 : Int32) &&& 31).toUInt32).toInt32)) (F := fun z224 => Jvm.Own.Ends p e below s room_1 n0 (fun v _ => v = some (.int 1)) T (mkF m 22 #[.val (.int u), .val (.int w), .val (.int (2 : Int32)), .val (.int (0 : Int32)), .unset, .unset, .unset, .unset, .unset, .unset, .unset, .unset, .unset, .unset, .unset, .unset] [(.int z224)])) ?_
      intro z224 hz224
      have tz224 : z224.toInt = (w.toInt % 4294967296) / 2 := n_iushr 1 hz224 rfl (by decide)
      refine iconst P at_22 (x := (1 : Int32)) rfl (n := 23) rfl ?_
      refine iand P at_23 (n := 24) rfl ?_
      refine nameI (x := (z224 &&& (1 : Int32))) (F := fun z225 => Jvm.Own.Ends p e below s room_1 n0 (fun v _ => v = some (.int 1)) T (mkF m 24 #[.val (.int u), .val (.int w), .val (.int (2 : Int32)), .val (.int (0 : Int32)), .unset, .unset, .unset, .unset, .unset, .unset, .unset, .unset, .unset, .unset, .unset, .unset] [(.int z225)])) ?_
      intro z225 hz225
      have tz225 : z225.toInt = z224.toInt % 2 := n_mask 1 hz225 rfl (by decide)
      refine iconst P at_24 (x := (1 : Int32)) rfl (n := 25) rfl ?_
      refine iadd P at_25 (n := 26) rfl ?_
      refine nameI (x := (z225 + (1 : Int32))) (F := fun z226 => Jvm.Own.Ends p e below s room_1 n0 (fun v _ => v = some (.int 1)) T (mkF m 26 #[.val (.int u), .val (.int w), .val (.int (2 : Int32)), .val (.int (0 : Int32)), .unset, .unset, .unset, .unset, .unset, .unset, .unset, .unset, .unset, .unset, .unset, .unset] [(.int z226)])) ?_
      intro z226 hz226
      have tz226 : z226.toInt = z225.toInt + (1 : Int) := n_iadd hz226 rfl rfl (by omega)
      refine istore P at_26 (l' := #[.val (.int u), .val (.int w), .val (.int (2 : Int32)), .val (.int (0 : Int32)), .val (.int z226), .unset, .unset, .unset, .unset, .unset, .unset, .unset, .unset, .unset, .unset, .unset]) rfl (n := 28) rfl ?_
      refine iloadN P at_28 rfl (n := 29) rfl ?_
      refine iload P at_29 rfl (n := 31) rfl ?_
      refine iadd P at_31 (n := 32) rfl ?_
      refine iconst P at_32 (x := (3 : Int32)) rfl (n := 33) rfl ?_
      refine irem P at_33 (by decide) (n := 34) rfl ?_
      refine istore P at_34 (l' := #[.val (.int u), .val (.int w), .val (.int (2 : Int32)), .val (.int (0 : Int32)), .val (.int z226), .val (.int (((2 : Int32) + z226) % (3 : Int32))), .unset, .unset, .unset, .unset, .unset, .unset, .unset, .unset, .unset, .unset]) rfl (n := 36) rfl ?_
      refine iconst P at_36 (x := (3 : Int32)) rfl (n := 37) rfl ?_
      refine iloadN P at_37 rfl (n := 38) rfl ?_
      refine isub P at_38 (n := 39) rfl ?_
      rw [show ((3 : Int32) - (2 : Int32)) = (1 : Int32) from by decide]
      refine iload P at_39 rfl (n := 41) rfl ?_
      refine isub P at_41 (n := 42) rfl ?_
      refine istore P at_42 (l' := #[.val (.int u), .val (.int w), .val (.int (2 : Int32)), .val (.int (0 : Int32)), .val (.int z226), .val (.int (((2 : Int32) + z226) % (3 : Int32))), .val (.int ((1 : Int32) - (((2 : Int32) + z226) % (3 : Int32)))), .unset, .unset, .unset, .unset, .unset, .unset, .unset, .unset, .unset]) rfl (n := 44) rfl ?_
      refine iloadN P at_44 rfl (n := 45) rfl ?_
      refine iconst P at_45 (x := (1 : Int32)) rfl (n := 46) rfl ?_
      refine iadd P at_46 (n := 47) rfl ?_
      rw [show ((2 : Int32) + (1 : Int32)) = (3 : Int32) from by decide]
      refine istore P at_47 (l' := #[.val (.int u), .val (.int w), .val (.int (2 : Int32)), .val (.int (0 : Int32)), .val (.int z226), .val (.int (((2 : Int32) + z226) % (3 : Int32))), .val (.int ((1 : Int32) - (((2 : Int32) + z226) % (3 : Int32)))), .val (.int (3 : Int32)), .unset, .unset, .unset, .unset, .unset, .unset, .unset, .unset]) rfl (n := 49) rfl ?_
      refine iload P at_49 rfl (n := 51) rfl ?_
      refine iconst P at_51 (x := (1 : Int32)) rfl (n := 52) rfl ?_
      refine iadd P at_52 (n := 53) rfl ?_
      refine istore P at_53 (l' := #[.val (.int u), .val (.int w), .val (.int (2 : Int32)), .val (.int (0 : Int32)), .val (.int z226), .val (.int (((2 : Int32) + z226) % (3 : Int32))), .val (.int ((1 : Int32) - (((2 : Int32) + z226) % (3 : Int32)))), .val (.int (3 : Int32)), .val (.int ((((2 : Int32) + z226) % (3 : Int32)) + (1 : Int32))), .unset, .unset, .unset, .unset, .unset, .unset, .unset]) rfl (n := 55) rfl ?_
      refine iload P at_55 rfl (n := 57) rfl ?_
      refine iconst P at_57 (x := (1 : Int32)) rfl (n := 58) rfl ?_
      refine iadd P at_58 (n := 59) rfl ?_
      refine istore P at_59 (l' := #[.val (.int u), .val (.int w), .val (.int (2 : Int32)), .val (.int (0 : Int32)), .val (.int z226), .val (.int (((2 : Int32) + z226) % (3 : Int32))), .val (.int ((1 : Int32) - (((2 : Int32) + z226) % (3 : Int32)))), .val (.int (3 : Int32)), .val (.int ((((2 : Int32) + z226) % (3 : Int32)) + (1 : Int32))), .val (.int (((1 : Int32) - (((2 : Int32) + z226) % (3 : Int32))) + (1 : Int32))), .unset, .unset, .unset, .unset, .unset, .unset]) rfl (n := 61) rfl ?_
      refine iloadN P at_61 rfl (n := 62) rfl ?_
      refine if0_ne P at_62 (n' := 69) (n := 65) (by decide) rfl (fun hc62 => ?_) (fun hc62 => ?_)
      · -- pc 62 taken
        replace hc62 : ¬ (2 : Int) = (0 : Int) := hc62
        refine iconst P at_69 (x := (1 : Int32)) rfl (n := 70) rfl ?_
        refine istore P at_70 (l' := #[.val (.int u), .val (.int w), .val (.int (2 : Int32)), .val (.int (0 : Int32)), .val (.int z226), .val (.int (((2 : Int32) + z226) % (3 : Int32))), .val (.int ((1 : Int32) - (((2 : Int32) + z226) % (3 : Int32)))), .val (.int (3 : Int32)), .val (.int ((((2 : Int32) + z226) % (3 : Int32)) + (1 : Int32))), .val (.int (((1 : Int32) - (((2 : Int32) + z226) % (3 : Int32))) + (1 : Int32))), .val (.int (1 : Int32)), .unset, .unset, .unset, .unset, .unset]) rfl (n := 72) rfl ?_
        refine iloadN P at_72 rfl (n := 73) rfl ?_
        refine iconst P at_73 (x := (2 : Int32)) rfl (n := 74) rfl ?_
        refine icmp_ne P at_74 (n' := 81) (n := 77) (by decide) rfl (fun hc74 => ?_) (fun hc74 => ?_)
        · -- pc 74 taken
          replace hc74 : ¬ (2 : Int) = (2 : Int) := hc74
          exact absurd hc74 (by decide)
        · -- pc 74 not taken
          replace hc74 : (2 : Int) = (2 : Int) := hc74
          refine iconst P at_77 (x := (2 : Int32)) rfl (n := 78) rfl ?_
          refine goto P at_78 (n := 82) (by decide) ?_
          refine istore P at_82 (l' := #[.val (.int u), .val (.int w), .val (.int (2 : Int32)), .val (.int (0 : Int32)), .val (.int z226), .val (.int (((2 : Int32) + z226) % (3 : Int32))), .val (.int ((1 : Int32) - (((2 : Int32) + z226) % (3 : Int32)))), .val (.int (3 : Int32)), .val (.int ((((2 : Int32) + z226) % (3 : Int32)) + (1 : Int32))), .val (.int (((1 : Int32) - (((2 : Int32) + z226) % (3 : Int32))) + (1 : Int32))), .val (.int (1 : Int32)), .val (.int (2 : Int32)), .unset, .unset, .unset, .unset]) rfl (n := 84) rfl ?_
          refine newO P at_84 (hw _ (List.mem_of_getElem? (i := 1) rfl)) (hw _ (List.mem_of_getElem? (i := 2) rfl)) (hw _ (List.mem_of_getElem? (i := 3) rfl)) (by decide) (by decide) (n := 87) rfl ?_
          intro T h228 b227 P X229 g230 lo_b227 E_b227 D_b227
          have F_b227_ids := D_b227 (Or.inl (hw _ (List.mem_of_getElem? (i := 12) rfl))) (ty := (.array .long)) (by decide)
          have F_b227_ordinals := D_b227 (Or.inl (hw _ (List.mem_of_getElem? (i := 15) rfl))) (ty := (.array .int)) (by decide)
          have F_b227_firstSeconds := D_b227 (Or.inl (hw _ (List.mem_of_getElem? (i := 17) rfl))) (ty := (.array .long)) (by decide)
          have F_b227_firstNanos := D_b227 (Or.inl (hw _ (List.mem_of_getElem? (i := 19) rfl))) (ty := (.array .int)) (by decide)
          have F_b227_lastSeconds := D_b227 (Or.inl (hw _ (List.mem_of_getElem? (i := 21) rfl))) (ty := (.array .long)) (by decide)
          have F_b227_lastNanos := D_b227 (Or.inl (hw _ (List.mem_of_getElem? (i := 23) rfl))) (ty := (.array .int)) (by decide)
          have F_b227_records := D_b227 (Or.inl (hw _ (List.mem_of_getElem? (i := 25) rfl))) (ty := (.array .long)) (by decide)
          have F_b227_entities := D_b227 (Or.inl (hw _ (List.mem_of_getElem? (i := 27) rfl))) (ty := (.array .int)) (by decide)
          have F_b227_others := D_b227 (Or.inl (hw _ (List.mem_of_getElem? (i := 31) rfl))) (ty := (.array (.array .int))) (by decide)
          have F_b227_otherCounts := D_b227 (Or.inl (hw _ (List.mem_of_getElem? (i := 33) rfl))) (ty := (.array .int)) (by decide)
          have F_b227_earlier := D_b227 (Or.inl (hw _ (List.mem_of_getElem? (i := 35) rfl))) (ty := (.array .int)) (by decide)
          have F_b227_later := D_b227 (Or.inl (hw _ (List.mem_of_getElem? (i := 37) rfl))) (ty := (.array .int)) (by decide)
          have F_b227_unused := D_b227 (Or.inl (hw _ (List.mem_of_getElem? (i := 39) rfl))) (ty := .int) (by decide)
          have F_b227_used := D_b227 (Or.inl (hw _ (List.mem_of_getElem? (i := 41) rfl))) (ty := .int) (by decide)
          refine dup P at_87 rfl (n := 88) rfl ?_
          refine callN P at_88 (a := b227) (argsL := []) (rest := [(.ref b227)]) (c_new l Z a0 hw b227 h228 n0 P.low E_b227 F_b227_unused F_b227_used F_b227_ids F_b227_ordinals F_b227_firstSeconds F_b227_firstNanos F_b227_lastSeconds F_b227_lastNanos F_b227_records F_b227_entities F_b227_others F_b227_otherCounts F_b227_earlier F_b227_later lo_b227) rfl (hw _ (List.mem_of_getElem? (i := 4) rfl)) (hw _ (List.mem_of_getElem? (i := 5) rfl)) (hw _ (List.mem_of_getElem? (i := 3) rfl)) (hw _ (List.mem_of_getElem? (i := 6) rfl)) (by decide) pd_1 rfl rfl rfl ⟨by decide, Nat.le_of_ble_eq_true rfl, by decide, by decide⟩ (n := 91) rfl ?_
          rintro T h231 v P ⟨rfl, O232⟩
          show Jvm.Own.Ends p e below s room_1 n0 (fun v _ => v = some (.int 1)) T (mkF m 91 #[.val (.int u), .val (.int w), .val (.int (2 : Int32)), .val (.int (0 : Int32)), .val (.int z226), .val (.int (((2 : Int32) + z226) % (3 : Int32))), .val (.int ((1 : Int32) - (((2 : Int32) + z226) % (3 : Int32)))), .val (.int (3 : Int32)), .val (.int ((((2 : Int32) + z226) % (3 : Int32)) + (1 : Int32))), .val (.int (((1 : Int32) - (((2 : Int32) + z226) % (3 : Int32))) + (1 : Int32))), .val (.int (1 : Int32)), .val (.int (2 : Int32)), .unset, .unset, .unset, .unset] [(.ref b227)])
          rw [own_tab0] at O232
          replace O232 : own_OS Z n0 h231 b227 (0 : Int32) (1 : Int32) (own_tab [0, 0, 0, 0, 0, 0]) (own_tab [0, 0, 0, 0, 0, 0]) := O232
          refine astore P at_91 rfl (l' := #[.val (.int u), .val (.int w), .val (.int (2 : Int32)), .val (.int (0 : Int32)), .val (.int z226), .val (.int (((2 : Int32) + z226) % (3 : Int32))), .val (.int ((1 : Int32) - (((2 : Int32) + z226) % (3 : Int32)))), .val (.int (3 : Int32)), .val (.int ((((2 : Int32) + z226) % (3 : Int32)) + (1 : Int32))), .val (.int (((1 : Int32) - (((2 : Int32) + z226) % (3 : Int32))) + (1 : Int32))), .val (.int (1 : Int32)), .val (.int (2 : Int32)), .val (.ref b227), .unset, .unset, .unset]) rfl (n := 93) rfl ?_
          refine aload P at_93 rfl rfl (n := 95) rfl ?_
          refine ldc2J P at_95 (hw _ (List.mem_of_getElem? (i := 42) rfl)) (n := 98) rfl ?_
          refine iconst P at_98 (x := (1 : Int32)) rfl (n := 99) rfl ?_
          refine lconst P at_99 (x := (0 : Int64)) rfl (n := 100) rfl ?_
          refine iconst P at_100 (x := (0 : Int32)) rfl (n := 101) rfl ?_
          refine iconst P at_101 (x := (1 : Int32)) rfl (n := 102) rfl ?_
          refine callV P at_102 (a := b227) (argsL := [(.long (10 : Int64)), (.int (1 : Int32)), (.long (0 : Int64)), (.int (0 : Int32)), (.int (1 : Int32))]) (rest := []) (c_open l Z a0 hw b227 (10 : Int64) (1 : Int32) (0 : Int64) (0 : Int32) (1 : Int32) (0 : Int32) (1 : Int32) (own_tab [0, 0, 0, 0, 0, 0]) (own_tab [0, 0, 0, 0, 0, 0]) h231 n0 P.low O232 (by decide) (by decide) (by decide)) (own_OS_exa O232) (hw _ (List.mem_of_getElem? (i := 43) rfl)) (hw _ (List.mem_of_getElem? (i := 44) rfl)) (notFace_of_selects (args := #[]) (mvT P.hZ (hw _ (List.mem_of_getElem? (i := 46) rfl)))) (hw _ (List.mem_of_getElem? (i := 46) rfl)) (hw _ (List.mem_of_getElem? (i := 45) rfl)) (hw _ (List.mem_of_getElem? (i := 3) rfl)) (hw _ (List.mem_of_getElem? (i := 47) rfl)) (by decide) pd_2 rfl rfl rfl ⟨by decide, Nat.le_of_ble_eq_true rfl, by decide, by decide⟩ (n := 105) rfl ?_
          rintro T h233 v P hq
          obtain ⟨rfl, O234⟩ := hq.1 (by decide)
          show Jvm.Own.Ends p e below s room_1 n0 (fun v _ => v = some (.int 1)) T (mkF m 105 #[.val (.int u), .val (.int w), .val (.int (2 : Int32)), .val (.int (0 : Int32)), .val (.int z226), .val (.int (((2 : Int32) + z226) % (3 : Int32))), .val (.int ((1 : Int32) - (((2 : Int32) + z226) % (3 : Int32)))), .val (.int (3 : Int32)), .val (.int ((((2 : Int32) + z226) % (3 : Int32)) + (1 : Int32))), .val (.int (((1 : Int32) - (((2 : Int32) + z226) % (3 : Int32))) + (1 : Int32))), .val (.int (1 : Int32)), .val (.int (2 : Int32)), .val (.ref b227), .unset, .unset, .unset] [(.int (1 : Int32))])
          have t235 : (ovr (ovr (own_tab [0, 0, 0, 0, 0, 0]) (1 : Int32).toInt.toNat ((own_tab [0, 0, 0, 0, 0, 0]) 0)) 0 (1 : Int32)) = own_tab [1, 0, 0, 0, 0, 0] := by rw [own_tab_set [0, 0, 0, 0, 0, 0] (1 : Int32).toInt.toNat ((own_tab [0, 0, 0, 0, 0, 0]) 0) (by decide), own_tab_set ([0, 0, 0, 0, 0, 0].set (1 : Int32).toInt.toNat ((own_tab [0, 0, 0, 0, 0, 0]) 0)) 0 (1 : Int32) (by decide)]; rfl
          rw [t235] at O234
          have t236 : (ovr (ovr (own_tab [0, 0, 0, 0, 0, 0]) (1 : Int32).toInt.toNat 0) ((own_tab [0, 0, 0, 0, 0, 0]) 0).toInt.toNat (1 : Int32)) = own_tab [1, 0, 0, 0, 0, 0] := by rw [own_tab_set [0, 0, 0, 0, 0, 0] (1 : Int32).toInt.toNat 0 (by decide), own_tab_set ([0, 0, 0, 0, 0, 0].set (1 : Int32).toInt.toNat 0) ((own_tab [0, 0, 0, 0, 0, 0]) 0).toInt.toNat (1 : Int32) (by decide)]; rfl
          rw [t236] at O234
          replace O234 : own_OS Z n0 h233 b227 (0 : Int32) (2 : Int32) (own_tab [1, 0, 0, 0, 0, 0]) (own_tab [1, 0, 0, 0, 0, 0]) := O234
          refine istore P at_105 (l' := #[.val (.int u), .val (.int w), .val (.int (2 : Int32)), .val (.int (0 : Int32)), .val (.int z226), .val (.int (((2 : Int32) + z226) % (3 : Int32))), .val (.int ((1 : Int32) - (((2 : Int32) + z226) % (3 : Int32)))), .val (.int (3 : Int32)), .val (.int ((((2 : Int32) + z226) % (3 : Int32)) + (1 : Int32))), .val (.int (((1 : Int32) - (((2 : Int32) + z226) % (3 : Int32))) + (1 : Int32))), .val (.int (1 : Int32)), .val (.int (2 : Int32)), .val (.ref b227), .val (.int (1 : Int32)), .unset, .unset]) rfl (n := 107) rfl ?_
          refine aload P at_107 rfl rfl (n := 109) rfl ?_
          refine ldc2J P at_109 (hw _ (List.mem_of_getElem? (i := 52) rfl)) (n := 112) rfl ?_
          refine iconst P at_112 (x := (1 : Int32)) rfl (n := 113) rfl ?_
          refine lconst P at_113 (x := (1 : Int64)) rfl (n := 114) rfl ?_
          refine iconst P at_114 (x := (0 : Int32)) rfl (n := 115) rfl ?_
          refine iconst P at_115 (x := (2 : Int32)) rfl (n := 116) rfl ?_
          refine callV P at_116 (a := b227) (argsL := [(.long (20 : Int64)), (.int (1 : Int32)), (.long (1 : Int64)), (.int (0 : Int32)), (.int (2 : Int32))]) (rest := []) (c_open l Z a0 hw b227 (20 : Int64) (1 : Int32) (1 : Int64) (0 : Int32) (2 : Int32) (0 : Int32) (2 : Int32) (own_tab [1, 0, 0, 0, 0, 0]) (own_tab [1, 0, 0, 0, 0, 0]) h233 n0 P.low O234 (by decide) (by decide) (by decide)) (own_OS_exa O234) (hw _ (List.mem_of_getElem? (i := 43) rfl)) (hw _ (List.mem_of_getElem? (i := 44) rfl)) (notFace_of_selects (args := #[]) (mvT P.hZ (hw _ (List.mem_of_getElem? (i := 46) rfl)))) (hw _ (List.mem_of_getElem? (i := 46) rfl)) (hw _ (List.mem_of_getElem? (i := 45) rfl)) (hw _ (List.mem_of_getElem? (i := 3) rfl)) (hw _ (List.mem_of_getElem? (i := 47) rfl)) (by decide) pd_2 rfl rfl rfl ⟨by decide, Nat.le_of_ble_eq_true rfl, by decide, by decide⟩ (n := 119) rfl ?_
          rintro T h237 v P hq
          obtain ⟨rfl, O238⟩ := hq.1 (by decide)
          show Jvm.Own.Ends p e below s room_1 n0 (fun v _ => v = some (.int 1)) T (mkF m 119 #[.val (.int u), .val (.int w), .val (.int (2 : Int32)), .val (.int (0 : Int32)), .val (.int z226), .val (.int (((2 : Int32) + z226) % (3 : Int32))), .val (.int ((1 : Int32) - (((2 : Int32) + z226) % (3 : Int32)))), .val (.int (3 : Int32)), .val (.int ((((2 : Int32) + z226) % (3 : Int32)) + (1 : Int32))), .val (.int (((1 : Int32) - (((2 : Int32) + z226) % (3 : Int32))) + (1 : Int32))), .val (.int (1 : Int32)), .val (.int (2 : Int32)), .val (.ref b227), .val (.int (1 : Int32)), .unset, .unset] [(.int (2 : Int32))])
          have t239 : (ovr (ovr (own_tab [1, 0, 0, 0, 0, 0]) (2 : Int32).toInt.toNat ((own_tab [1, 0, 0, 0, 0, 0]) 0)) 0 (2 : Int32)) = own_tab [2, 0, 1, 0, 0, 0] := by rw [own_tab_set [1, 0, 0, 0, 0, 0] (2 : Int32).toInt.toNat ((own_tab [1, 0, 0, 0, 0, 0]) 0) (by decide), own_tab_set ([1, 0, 0, 0, 0, 0].set (2 : Int32).toInt.toNat ((own_tab [1, 0, 0, 0, 0, 0]) 0)) 0 (2 : Int32) (by decide)]; rfl
          rw [t239] at O238
          have t240 : (ovr (ovr (own_tab [1, 0, 0, 0, 0, 0]) (2 : Int32).toInt.toNat 0) ((own_tab [1, 0, 0, 0, 0, 0]) 0).toInt.toNat (2 : Int32)) = own_tab [1, 2, 0, 0, 0, 0] := by rw [own_tab_set [1, 0, 0, 0, 0, 0] (2 : Int32).toInt.toNat 0 (by decide), own_tab_set ([1, 0, 0, 0, 0, 0].set (2 : Int32).toInt.toNat 0) ((own_tab [1, 0, 0, 0, 0, 0]) 0).toInt.toNat (2 : Int32) (by decide)]; rfl
          rw [t240] at O238
          replace O238 : own_OS Z n0 h237 b227 (0 : Int32) (3 : Int32) (own_tab [2, 0, 1, 0, 0, 0]) (own_tab [1, 2, 0, 0, 0, 0]) := O238
          refine istore P at_119 (l' := #[.val (.int u), .val (.int w), .val (.int (2 : Int32)), .val (.int (0 : Int32)), .val (.int z226), .val (.int (((2 : Int32) + z226) % (3 : Int32))), .val (.int ((1 : Int32) - (((2 : Int32) + z226) % (3 : Int32)))), .val (.int (3 : Int32)), .val (.int ((((2 : Int32) + z226) % (3 : Int32)) + (1 : Int32))), .val (.int (((1 : Int32) - (((2 : Int32) + z226) % (3 : Int32))) + (1 : Int32))), .val (.int (1 : Int32)), .val (.int (2 : Int32)), .val (.ref b227), .val (.int (1 : Int32)), .val (.int (2 : Int32)), .unset]) rfl (n := 121) rfl ?_
          refine aload P at_121 rfl rfl (n := 123) rfl ?_
          refine ldc2J P at_123 (hw _ (List.mem_of_getElem? (i := 53) rfl)) (n := 126) rfl ?_
          refine iconst P at_126 (x := (1 : Int32)) rfl (n := 127) rfl ?_
          refine ldc2J P at_127 (hw _ (List.mem_of_getElem? (i := 54) rfl)) (n := 130) rfl ?_
          refine iconst P at_130 (x := (0 : Int32)) rfl (n := 131) rfl ?_
          refine iconst P at_131 (x := (3 : Int32)) rfl (n := 132) rfl ?_
          refine callV P at_132 (a := b227) (argsL := [(.long (30 : Int64)), (.int (1 : Int32)), (.long (2 : Int64)), (.int (0 : Int32)), (.int (3 : Int32))]) (rest := []) (c_open l Z a0 hw b227 (30 : Int64) (1 : Int32) (2 : Int64) (0 : Int32) (3 : Int32) (0 : Int32) (3 : Int32) (own_tab [2, 0, 1, 0, 0, 0]) (own_tab [1, 2, 0, 0, 0, 0]) h237 n0 P.low O238 (by decide) (by decide) (by decide)) (own_OS_exa O238) (hw _ (List.mem_of_getElem? (i := 43) rfl)) (hw _ (List.mem_of_getElem? (i := 44) rfl)) (notFace_of_selects (args := #[]) (mvT P.hZ (hw _ (List.mem_of_getElem? (i := 46) rfl)))) (hw _ (List.mem_of_getElem? (i := 46) rfl)) (hw _ (List.mem_of_getElem? (i := 45) rfl)) (hw _ (List.mem_of_getElem? (i := 3) rfl)) (hw _ (List.mem_of_getElem? (i := 47) rfl)) (by decide) pd_2 rfl rfl rfl ⟨by decide, Nat.le_of_ble_eq_true rfl, by decide, by decide⟩ (n := 135) rfl ?_
          rintro T h241 v P hq
          obtain ⟨rfl, O242⟩ := hq.1 (by decide)
          show Jvm.Own.Ends p e below s room_1 n0 (fun v _ => v = some (.int 1)) T (mkF m 135 #[.val (.int u), .val (.int w), .val (.int (2 : Int32)), .val (.int (0 : Int32)), .val (.int z226), .val (.int (((2 : Int32) + z226) % (3 : Int32))), .val (.int ((1 : Int32) - (((2 : Int32) + z226) % (3 : Int32)))), .val (.int (3 : Int32)), .val (.int ((((2 : Int32) + z226) % (3 : Int32)) + (1 : Int32))), .val (.int (((1 : Int32) - (((2 : Int32) + z226) % (3 : Int32))) + (1 : Int32))), .val (.int (1 : Int32)), .val (.int (2 : Int32)), .val (.ref b227), .val (.int (1 : Int32)), .val (.int (2 : Int32)), .unset] [(.int (3 : Int32))])
          have t243 : (ovr (ovr (own_tab [2, 0, 1, 0, 0, 0]) (3 : Int32).toInt.toNat ((own_tab [2, 0, 1, 0, 0, 0]) 0)) 0 (3 : Int32)) = own_tab [3, 0, 1, 2, 0, 0] := by rw [own_tab_set [2, 0, 1, 0, 0, 0] (3 : Int32).toInt.toNat ((own_tab [2, 0, 1, 0, 0, 0]) 0) (by decide), own_tab_set ([2, 0, 1, 0, 0, 0].set (3 : Int32).toInt.toNat ((own_tab [2, 0, 1, 0, 0, 0]) 0)) 0 (3 : Int32) (by decide)]; rfl
          rw [t243] at O242
          have t244 : (ovr (ovr (own_tab [1, 2, 0, 0, 0, 0]) (3 : Int32).toInt.toNat 0) ((own_tab [2, 0, 1, 0, 0, 0]) 0).toInt.toNat (3 : Int32)) = own_tab [1, 2, 3, 0, 0, 0] := by rw [own_tab_set [1, 2, 0, 0, 0, 0] (3 : Int32).toInt.toNat 0 (by decide), own_tab_set ([1, 2, 0, 0, 0, 0].set (3 : Int32).toInt.toNat 0) ((own_tab [2, 0, 1, 0, 0, 0]) 0).toInt.toNat (3 : Int32) (by decide)]; rfl
          rw [t244] at O242
          replace O242 : own_OS Z n0 h241 b227 (0 : Int32) (4 : Int32) (own_tab [3, 0, 1, 2, 0, 0]) (own_tab [1, 2, 3, 0, 0, 0]) := O242
          refine istore P at_135 (l' := #[.val (.int u), .val (.int w), .val (.int (2 : Int32)), .val (.int (0 : Int32)), .val (.int z226), .val (.int (((2 : Int32) + z226) % (3 : Int32))), .val (.int ((1 : Int32) - (((2 : Int32) + z226) % (3 : Int32)))), .val (.int (3 : Int32)), .val (.int ((((2 : Int32) + z226) % (3 : Int32)) + (1 : Int32))), .val (.int (((1 : Int32) - (((2 : Int32) + z226) % (3 : Int32))) + (1 : Int32))), .val (.int (1 : Int32)), .val (.int (2 : Int32)), .val (.ref b227), .val (.int (1 : Int32)), .val (.int (2 : Int32)), .val (.int (3 : Int32))]) rfl (n := 137) rfl ?_
          refine iload P at_137 rfl (n := 139) rfl ?_
          refine iconst P at_139 (x := (1 : Int32)) rfl (n := 140) rfl ?_
          refine icmp_ne P at_140 (n' := 155) (n := 143) (by decide) rfl (fun hc140 => ?_) (fun hc140 => ?_)
          · -- pc 140 taken
            replace hc140 : ¬ (1 : Int) = (1 : Int) := hc140
            exact absurd hc140 (by decide)
          · -- pc 140 not taken
            replace hc140 : (1 : Int) = (1 : Int) := hc140
            refine iload P at_143 rfl (n := 145) rfl ?_
            refine iconst P at_145 (x := (2 : Int32)) rfl (n := 146) rfl ?_
            refine icmp_ne P at_146 (n' := 155) (n := 149) (by decide) rfl (fun hc146 => ?_) (fun hc146 => ?_)
            · -- pc 146 taken
              replace hc146 : ¬ (2 : Int) = (2 : Int) := hc146
              exact absurd hc146 (by decide)
            · -- pc 146 not taken
              replace hc146 : (2 : Int) = (2 : Int) := hc146
              refine iload P at_149 rfl (n := 151) rfl ?_
              refine iconst P at_151 (x := (3 : Int32)) rfl (n := 152) rfl ?_
              refine icmp_eq P at_152 (n' := 157) (n := 155) (by decide) rfl (fun hc152 => ?_) (fun hc152 => ?_)
              · -- pc 152 taken
                replace hc152 : (3 : Int) = (3 : Int) := hc152
                refine aload P at_157 rfl rfl (n := 159) rfl ?_
                refine iload P at_159 rfl (n := 161) rfl ?_
                refine callV P at_161 (a := b227) (argsL := [(.int (3 : Int32))]) (rest := []) (c_end l Z a0 hw b227 (3 : Int32) (0 : Int32) (4 : Int32) (own_tab [3, 0, 1, 2, 0, 0]) (own_tab [1, 2, 3, 0, 0, 0]) h241 n0 P.low O242 (by decide) (by decide) (by decide) (by decide)) (own_OS_exa O242) (hw _ (List.mem_of_getElem? (i := 55) rfl)) (hw _ (List.mem_of_getElem? (i := 56) rfl)) (notFace_of_selects (args := #[]) (mvT P.hZ (hw _ (List.mem_of_getElem? (i := 58) rfl)))) (hw _ (List.mem_of_getElem? (i := 58) rfl)) (hw _ (List.mem_of_getElem? (i := 57) rfl)) (hw _ (List.mem_of_getElem? (i := 3) rfl)) (hw _ (List.mem_of_getElem? (i := 59) rfl)) (by decide) pd_0 rfl rfl rfl ⟨by decide, Nat.le_of_ble_eq_true rfl, by decide, by decide⟩ (n := 164) rfl ?_
                rintro T h245 v P ⟨rfl, O246⟩
                show Jvm.Own.Ends p e below s room_1 n0 (fun v _ => v = some (.int 1)) T (mkF m 164 #[.val (.int u), .val (.int w), .val (.int (2 : Int32)), .val (.int (0 : Int32)), .val (.int z226), .val (.int (((2 : Int32) + z226) % (3 : Int32))), .val (.int ((1 : Int32) - (((2 : Int32) + z226) % (3 : Int32)))), .val (.int (3 : Int32)), .val (.int ((((2 : Int32) + z226) % (3 : Int32)) + (1 : Int32))), .val (.int (((1 : Int32) - (((2 : Int32) + z226) % (3 : Int32))) + (1 : Int32))), .val (.int (1 : Int32)), .val (.int (2 : Int32)), .val (.ref b227), .val (.int (1 : Int32)), .val (.int (2 : Int32)), .val (.int (3 : Int32))] [])
                have t247 : (ovr (own_tab [1, 2, 3, 0, 0, 0]) ((own_tab [3, 0, 1, 2, 0, 0]) (3 : Int32).toInt.toNat).toInt.toNat ((own_tab [1, 2, 3, 0, 0, 0]) (3 : Int32).toInt.toNat)) = own_tab [1, 2, 0, 0, 0, 0] := by rw [own_tab_set [1, 2, 3, 0, 0, 0] ((own_tab [3, 0, 1, 2, 0, 0]) (3 : Int32).toInt.toNat).toInt.toNat ((own_tab [1, 2, 3, 0, 0, 0]) (3 : Int32).toInt.toNat) (by decide)]; rfl
                rw [t247] at O246
                have t248 : (ovr (own_tab [1, 2, 0, 0, 0, 0]) (3 : Int32).toInt.toNat (0 : Int32)) = own_tab [1, 2, 0, 0, 0, 0] := by rw [own_tab_set [1, 2, 0, 0, 0, 0] (3 : Int32).toInt.toNat (0 : Int32) (by decide)]; rfl
                rw [t248] at O246
                have t249 : (ovr (own_tab [3, 0, 1, 2, 0, 0]) ((own_tab [1, 2, 0, 0, 0, 0]) (3 : Int32).toInt.toNat).toInt.toNat ((own_tab [3, 0, 1, 2, 0, 0]) (3 : Int32).toInt.toNat)) = own_tab [2, 0, 1, 2, 0, 0] := by rw [own_tab_set [3, 0, 1, 2, 0, 0] ((own_tab [1, 2, 0, 0, 0, 0]) (3 : Int32).toInt.toNat).toInt.toNat ((own_tab [3, 0, 1, 2, 0, 0]) (3 : Int32).toInt.toNat) (by decide)]; rfl
                rw [t249] at O246
                replace O246 : own_OS Z n0 h245 b227 (3 : Int32) (4 : Int32) (own_tab [2, 0, 1, 2, 0, 0]) (own_tab [1, 2, 0, 0, 0, 0]) := O246
                refine iloadN P at_164 rfl (n := 165) rfl ?_
                refine if0_ne P at_165 (n' := 253) (n := 168) (by decide) rfl (fun hc165 => ?_) (fun hc165 => ?_)
                · -- pc 165 taken
                  replace hc165 : ¬ (0 : Int) = (0 : Int) := hc165
                  exact absurd hc165 (by decide)
                · -- pc 165 not taken
                  replace hc165 : (0 : Int) = (0 : Int) := hc165
                  refine aload P at_168 rfl rfl (n := 170) rfl ?_
                  refine callV P at_170 (a := b227) (argsL := []) (rest := []) (c_first l Z a0 hw b227 (3 : Int32) (4 : Int32) (own_tab [2, 0, 1, 2, 0, 0]) (own_tab [1, 2, 0, 0, 0, 0]) h245 n0 P.low O246) (own_OS_exa O246) (hw _ (List.mem_of_getElem? (i := 64) rfl)) (hw _ (List.mem_of_getElem? (i := 65) rfl)) (notFace_of_selects (args := #[]) (mvT P.hZ (hw _ (List.mem_of_getElem? (i := 67) rfl)))) (hw _ (List.mem_of_getElem? (i := 67) rfl)) (hw _ (List.mem_of_getElem? (i := 66) rfl)) (hw _ (List.mem_of_getElem? (i := 3) rfl)) (hw _ (List.mem_of_getElem? (i := 68) rfl)) (by decide) pd_3 rfl rfl rfl ⟨by decide, Nat.le_of_ble_eq_true rfl, by decide, by decide⟩ (n := 173) rfl (Ret.on ?_)
                  intro T P
                  rw [show (own_tab [1, 2, 0, 0, 0, 0]) 0 = (1 : Int32) from rfl]
                  refine iload P at_173 rfl (n := 175) rfl ?_
                  refine icmp_eq P at_175 (n' := 180) (n := 178) (by decide) rfl (fun hc175 => ?_) (fun hc175 => ?_)
                  · -- pc 175 taken
                    replace hc175 : (1 : Int) = (1 : Int) := hc175
                    refine aload P at_180 rfl rfl (n := 182) rfl ?_
                    refine iload P at_182 rfl (n := 184) rfl ?_
                    refine callV P at_184 (a := b227) (argsL := [(.int (1 : Int32))]) (rest := []) (c_after l Z a0 hw b227 (1 : Int32) (3 : Int32) (4 : Int32) (own_tab [2, 0, 1, 2, 0, 0]) (own_tab [1, 2, 0, 0, 0, 0]) h245 n0 P.low O246 (by decide)) (own_OS_exa O246) (hw _ (List.mem_of_getElem? (i := 69) rfl)) (hw _ (List.mem_of_getElem? (i := 70) rfl)) (notFace_of_selects (args := #[]) (mvT P.hZ (hw _ (List.mem_of_getElem? (i := 72) rfl)))) (hw _ (List.mem_of_getElem? (i := 72) rfl)) (hw _ (List.mem_of_getElem? (i := 71) rfl)) (hw _ (List.mem_of_getElem? (i := 3) rfl)) (hw _ (List.mem_of_getElem? (i := 73) rfl)) (by decide) pd_4 rfl rfl rfl ⟨by decide, Nat.le_of_ble_eq_true rfl, by decide, by decide⟩ (n := 187) rfl (Ret.on ?_)
                    intro T P
                    rw [show (own_tab [1, 2, 0, 0, 0, 0]) (1 : Int32).toInt.toNat = (2 : Int32) from rfl]
                    refine iload P at_187 rfl (n := 189) rfl ?_
                    refine icmp_eq P at_189 (n' := 194) (n := 192) (by decide) rfl (fun hc189 => ?_) (fun hc189 => ?_)
                    · -- pc 189 taken
                      replace hc189 : (2 : Int) = (2 : Int) := hc189
                      refine aload P at_194 rfl rfl (n := 196) rfl ?_
                      refine ldc2J P at_196 (hw _ (List.mem_of_getElem? (i := 74) rfl)) (n := 199) rfl ?_
                      refine iconst P at_199 (x := (1 : Int32)) rfl (n := 200) rfl ?_
                      refine ldc2J P at_200 (hw _ (List.mem_of_getElem? (i := 75) rfl)) (n := 203) rfl ?_
                      refine iconst P at_203 (x := (0 : Int32)) rfl (n := 204) rfl ?_
                      refine iconst P at_204 (x := (4 : Int32)) rfl (n := 205) rfl ?_
                      refine callV P at_205 (a := b227) (argsL := [(.long (40 : Int64)), (.int (1 : Int32)), (.long (3 : Int64)), (.int (0 : Int32)), (.int (4 : Int32))]) (rest := []) (c_open l Z a0 hw b227 (40 : Int64) (1 : Int32) (3 : Int64) (0 : Int32) (4 : Int32) (3 : Int32) (4 : Int32) (own_tab [2, 0, 1, 2, 0, 0]) (own_tab [1, 2, 0, 0, 0, 0]) h245 n0 P.low O246 (by decide) (by decide) (by decide)) (own_OS_exa O246) (hw _ (List.mem_of_getElem? (i := 43) rfl)) (hw _ (List.mem_of_getElem? (i := 44) rfl)) (notFace_of_selects (args := #[]) (mvT P.hZ (hw _ (List.mem_of_getElem? (i := 46) rfl)))) (hw _ (List.mem_of_getElem? (i := 46) rfl)) (hw _ (List.mem_of_getElem? (i := 45) rfl)) (hw _ (List.mem_of_getElem? (i := 3) rfl)) (hw _ (List.mem_of_getElem? (i := 47) rfl)) (by decide) pd_2 rfl rfl rfl ⟨by decide, Nat.le_of_ble_eq_true rfl, by decide, by decide⟩ (n := 208) rfl ?_
                      rintro T h250 v P hq
                      obtain ⟨rfl, O251⟩ := hq.2 (by decide)
                      show Jvm.Own.Ends p e below s room_1 n0 (fun v _ => v = some (.int 1)) T (mkF m 208 #[.val (.int u), .val (.int w), .val (.int (2 : Int32)), .val (.int (0 : Int32)), .val (.int z226), .val (.int (((2 : Int32) + z226) % (3 : Int32))), .val (.int ((1 : Int32) - (((2 : Int32) + z226) % (3 : Int32)))), .val (.int (3 : Int32)), .val (.int ((((2 : Int32) + z226) % (3 : Int32)) + (1 : Int32))), .val (.int (((1 : Int32) - (((2 : Int32) + z226) % (3 : Int32))) + (1 : Int32))), .val (.int (1 : Int32)), .val (.int (2 : Int32)), .val (.ref b227), .val (.int (1 : Int32)), .val (.int (2 : Int32)), .val (.int (3 : Int32))] [(.int (3 : Int32))])
                      have t252 : (ovr (ovr (own_tab [2, 0, 1, 2, 0, 0]) (3 : Int32).toInt.toNat ((own_tab [2, 0, 1, 2, 0, 0]) 0)) 0 (3 : Int32)) = own_tab [3, 0, 1, 2, 0, 0] := by rw [own_tab_set [2, 0, 1, 2, 0, 0] (3 : Int32).toInt.toNat ((own_tab [2, 0, 1, 2, 0, 0]) 0) (by decide), own_tab_set ([2, 0, 1, 2, 0, 0].set (3 : Int32).toInt.toNat ((own_tab [2, 0, 1, 2, 0, 0]) 0)) 0 (3 : Int32) (by decide)]; rfl
                      rw [t252] at O251
                      have t253 : (ovr (ovr (own_tab [1, 2, 0, 0, 0, 0]) (3 : Int32).toInt.toNat 0) ((own_tab [2, 0, 1, 2, 0, 0]) 0).toInt.toNat (3 : Int32)) = own_tab [1, 2, 3, 0, 0, 0] := by rw [own_tab_set [1, 2, 0, 0, 0, 0] (3 : Int32).toInt.toNat 0 (by decide), own_tab_set ([1, 2, 0, 0, 0, 0].set (3 : Int32).toInt.toNat 0) ((own_tab [2, 0, 1, 2, 0, 0]) 0).toInt.toNat (3 : Int32) (by decide)]; rfl
                      rw [t253] at O251
                      replace O251 : own_OS Z n0 h250 b227 (0 : Int32) (4 : Int32) (own_tab [3, 0, 1, 2, 0, 0]) (own_tab [1, 2, 3, 0, 0, 0]) := O251
                      refine iload P at_208 rfl (n := 210) rfl ?_
                      refine icmp_eq P at_210 (n' := 215) (n := 213) (by decide) rfl (fun hc210 => ?_) (fun hc210 => ?_)
                      · -- pc 210 taken
                        replace hc210 : (3 : Int) = (3 : Int) := hc210
                        refine aload P at_215 rfl rfl (n := 217) rfl ?_
                        refine iload P at_217 rfl (n := 219) rfl ?_
                        refine callV P at_219 (a := b227) (argsL := [(.int (2 : Int32))]) (rest := []) (c_after l Z a0 hw b227 (2 : Int32) (0 : Int32) (4 : Int32) (own_tab [3, 0, 1, 2, 0, 0]) (own_tab [1, 2, 3, 0, 0, 0]) h250 n0 P.low O251 (by decide)) (own_OS_exa O251) (hw _ (List.mem_of_getElem? (i := 69) rfl)) (hw _ (List.mem_of_getElem? (i := 70) rfl)) (notFace_of_selects (args := #[]) (mvT P.hZ (hw _ (List.mem_of_getElem? (i := 72) rfl)))) (hw _ (List.mem_of_getElem? (i := 72) rfl)) (hw _ (List.mem_of_getElem? (i := 71) rfl)) (hw _ (List.mem_of_getElem? (i := 3) rfl)) (hw _ (List.mem_of_getElem? (i := 73) rfl)) (by decide) pd_4 rfl rfl rfl ⟨by decide, Nat.le_of_ble_eq_true rfl, by decide, by decide⟩ (n := 222) rfl (Ret.on ?_)
                        intro T P
                        rw [show (own_tab [1, 2, 3, 0, 0, 0]) (2 : Int32).toInt.toNat = (3 : Int32) from rfl]
                        refine iload P at_222 rfl (n := 224) rfl ?_
                        refine icmp_eq P at_224 (n' := 229) (n := 227) (by decide) rfl (fun hc224 => ?_) (fun hc224 => ?_)
                        · -- pc 224 taken
                          replace hc224 : (3 : Int) = (3 : Int) := hc224
                          refine aload P at_229 rfl rfl (n := 231) rfl ?_
                          refine ldc2J P at_231 (hw _ (List.mem_of_getElem? (i := 76) rfl)) (n := 234) rfl ?_
                          refine iconst P at_234 (x := (1 : Int32)) rfl (n := 235) rfl ?_
                          refine ldc2J P at_235 (hw _ (List.mem_of_getElem? (i := 77) rfl)) (n := 238) rfl ?_
                          refine iconst P at_238 (x := (0 : Int32)) rfl (n := 239) rfl ?_
                          refine iconst P at_239 (x := (5 : Int32)) rfl (n := 240) rfl ?_
                          refine callV P at_240 (a := b227) (argsL := [(.long (50 : Int64)), (.int (1 : Int32)), (.long (4 : Int64)), (.int (0 : Int32)), (.int (5 : Int32))]) (rest := []) (c_open l Z a0 hw b227 (50 : Int64) (1 : Int32) (4 : Int64) (0 : Int32) (5 : Int32) (0 : Int32) (4 : Int32) (own_tab [3, 0, 1, 2, 0, 0]) (own_tab [1, 2, 3, 0, 0, 0]) h250 n0 P.low O251 (by decide) (by decide) (by decide)) (own_OS_exa O251) (hw _ (List.mem_of_getElem? (i := 43) rfl)) (hw _ (List.mem_of_getElem? (i := 44) rfl)) (notFace_of_selects (args := #[]) (mvT P.hZ (hw _ (List.mem_of_getElem? (i := 46) rfl)))) (hw _ (List.mem_of_getElem? (i := 46) rfl)) (hw _ (List.mem_of_getElem? (i := 45) rfl)) (hw _ (List.mem_of_getElem? (i := 3) rfl)) (hw _ (List.mem_of_getElem? (i := 47) rfl)) (by decide) pd_2 rfl rfl rfl ⟨by decide, Nat.le_of_ble_eq_true rfl, by decide, by decide⟩ (n := 243) rfl ?_
                          rintro T h254 v P hq
                          obtain ⟨rfl, O255⟩ := hq.1 (by decide)
                          show Jvm.Own.Ends p e below s room_1 n0 (fun v _ => v = some (.int 1)) T (mkF m 243 #[.val (.int u), .val (.int w), .val (.int (2 : Int32)), .val (.int (0 : Int32)), .val (.int z226), .val (.int (((2 : Int32) + z226) % (3 : Int32))), .val (.int ((1 : Int32) - (((2 : Int32) + z226) % (3 : Int32)))), .val (.int (3 : Int32)), .val (.int ((((2 : Int32) + z226) % (3 : Int32)) + (1 : Int32))), .val (.int (((1 : Int32) - (((2 : Int32) + z226) % (3 : Int32))) + (1 : Int32))), .val (.int (1 : Int32)), .val (.int (2 : Int32)), .val (.ref b227), .val (.int (1 : Int32)), .val (.int (2 : Int32)), .val (.int (3 : Int32))] [(.int (4 : Int32))])
                          have t256 : (ovr (ovr (own_tab [3, 0, 1, 2, 0, 0]) (4 : Int32).toInt.toNat ((own_tab [3, 0, 1, 2, 0, 0]) 0)) 0 (4 : Int32)) = own_tab [4, 0, 1, 2, 3, 0] := by rw [own_tab_set [3, 0, 1, 2, 0, 0] (4 : Int32).toInt.toNat ((own_tab [3, 0, 1, 2, 0, 0]) 0) (by decide), own_tab_set ([3, 0, 1, 2, 0, 0].set (4 : Int32).toInt.toNat ((own_tab [3, 0, 1, 2, 0, 0]) 0)) 0 (4 : Int32) (by decide)]; rfl
                          rw [t256] at O255
                          have t257 : (ovr (ovr (own_tab [1, 2, 3, 0, 0, 0]) (4 : Int32).toInt.toNat 0) ((own_tab [3, 0, 1, 2, 0, 0]) 0).toInt.toNat (4 : Int32)) = own_tab [1, 2, 3, 4, 0, 0] := by rw [own_tab_set [1, 2, 3, 0, 0, 0] (4 : Int32).toInt.toNat 0 (by decide), own_tab_set ([1, 2, 3, 0, 0, 0].set (4 : Int32).toInt.toNat 0) ((own_tab [3, 0, 1, 2, 0, 0]) 0).toInt.toNat (4 : Int32) (by decide)]; rfl
                          rw [t257] at O255
                          replace O255 : own_OS Z n0 h254 b227 (0 : Int32) (5 : Int32) (own_tab [4, 0, 1, 2, 3, 0]) (own_tab [1, 2, 3, 4, 0, 0]) := O255
                          refine iconst P at_243 (x := (4 : Int32)) rfl (n := 244) rfl ?_
                          refine icmp_ne P at_244 (n' := 251) (n := 247) (by decide) rfl (fun hc244 => ?_) (fun hc244 => ?_)
                          · -- pc 244 taken
                            replace hc244 : ¬ (4 : Int) = (4 : Int) := hc244
                            exact absurd hc244 (by decide)
                          · -- pc 244 not taken
                            replace hc244 : (4 : Int) = (4 : Int) := hc244
                            refine iconst P at_247 (x := (1 : Int32)) rfl (n := 248) rfl ?_
                            refine goto P at_248 (n := 252) (by decide) ?_
                            refine retZ P at_252 (by decide) (by decide) (by decide) ?_
                            exact rfl
                        · -- pc 224 not taken
                          replace hc224 : ¬ (3 : Int) = (3 : Int) := hc224
                          exact absurd hc224 (by decide)
                      · -- pc 210 not taken
                        replace hc210 : ¬ (3 : Int) = (3 : Int) := hc210
                        exact absurd hc210 (by decide)
                    · -- pc 189 not taken
                      replace hc189 : ¬ (2 : Int) = (2 : Int) := hc189
                      exact absurd hc189 (by decide)
                  · -- pc 175 not taken
                    replace hc175 : ¬ (1 : Int) = (1 : Int) := hc175
                    exact absurd hc175 (by decide)
              · -- pc 152 not taken
                replace hc152 : ¬ (3 : Int) = (3 : Int) := hc152
                exact absurd hc152 (by decide)
      · -- pc 62 not taken
        replace hc62 : (2 : Int) = (0 : Int) := hc62
        exact absurd hc62 (by decide)
    · -- pc 10 not taken
      replace hc10 : ¬ z223.toInt = (0 : Int) := hc10
      refine iconst P at_13 (x := (1 : Int32)) rfl (n := 14) rfl ?_
      refine goto P at_14 (n := 18) (by decide) ?_
      refine istoreN P at_18 (l' := #[.val (.int u), .val (.int w), .val (.int (2 : Int32)), .val (.int (1 : Int32)), .unset, .unset, .unset, .unset, .unset, .unset, .unset, .unset, .unset, .unset, .unset, .unset]) rfl (n := 19) rfl ?_
      refine iloadN P at_19 rfl (n := 20) rfl ?_
      refine iconst P at_20 (x := (1 : Int32)) rfl (n := 21) rfl ?_
      refine iushr P at_21 (n := 22) rfl ?_
      refine nameI (x := ((w.toUInt32 >>> ((1 : Int32) &&& 31).toUInt32).toInt32)) (F := fun z258 => Jvm.Own.Ends p e below s room_1 n0 (fun v _ => v = some (.int 1)) T (mkF m 22 #[.val (.int u), .val (.int w), .val (.int (2 : Int32)), .val (.int (1 : Int32)), .unset, .unset, .unset, .unset, .unset, .unset, .unset, .unset, .unset, .unset, .unset, .unset] [(.int z258)])) ?_
      intro z258 hz258
      have tz258 : z258.toInt = (w.toInt % 4294967296) / 2 := n_iushr 1 hz258 rfl (by decide)
      refine iconst P at_22 (x := (1 : Int32)) rfl (n := 23) rfl ?_
      refine iand P at_23 (n := 24) rfl ?_
      refine nameI (x := (z258 &&& (1 : Int32))) (F := fun z259 => Jvm.Own.Ends p e below s room_1 n0 (fun v _ => v = some (.int 1)) T (mkF m 24 #[.val (.int u), .val (.int w), .val (.int (2 : Int32)), .val (.int (1 : Int32)), .unset, .unset, .unset, .unset, .unset, .unset, .unset, .unset, .unset, .unset, .unset, .unset] [(.int z259)])) ?_
      intro z259 hz259
      have tz259 : z259.toInt = z258.toInt % 2 := n_mask 1 hz259 rfl (by decide)
      refine iconst P at_24 (x := (1 : Int32)) rfl (n := 25) rfl ?_
      refine iadd P at_25 (n := 26) rfl ?_
      refine nameI (x := (z259 + (1 : Int32))) (F := fun z260 => Jvm.Own.Ends p e below s room_1 n0 (fun v _ => v = some (.int 1)) T (mkF m 26 #[.val (.int u), .val (.int w), .val (.int (2 : Int32)), .val (.int (1 : Int32)), .unset, .unset, .unset, .unset, .unset, .unset, .unset, .unset, .unset, .unset, .unset, .unset] [(.int z260)])) ?_
      intro z260 hz260
      have tz260 : z260.toInt = z259.toInt + (1 : Int) := n_iadd hz260 rfl rfl (by omega)
      rcases (show z260.toInt = 1 ∨ z260.toInt = 2 by omega) with q26 | q26
      ·
        obtain rfl : z260 = (1 : Int32) := eqI q26
        refine istore P at_26 (l' := #[.val (.int u), .val (.int w), .val (.int (2 : Int32)), .val (.int (1 : Int32)), .val (.int (1 : Int32)), .unset, .unset, .unset, .unset, .unset, .unset, .unset, .unset, .unset, .unset, .unset]) rfl (n := 28) rfl ?_
        refine iloadN P at_28 rfl (n := 29) rfl ?_
        refine iload P at_29 rfl (n := 31) rfl ?_
        refine iadd P at_31 (n := 32) rfl ?_
        rw [show ((2 : Int32) + (1 : Int32)) = (3 : Int32) from by decide]
        refine iconst P at_32 (x := (3 : Int32)) rfl (n := 33) rfl ?_
        refine irem P at_33 (by decide) (n := 34) rfl ?_
        rw [show ((3 : Int32) % (3 : Int32)) = (0 : Int32) from by decide]
        refine istore P at_34 (l' := #[.val (.int u), .val (.int w), .val (.int (2 : Int32)), .val (.int (1 : Int32)), .val (.int (1 : Int32)), .val (.int (0 : Int32)), .unset, .unset, .unset, .unset, .unset, .unset, .unset, .unset, .unset, .unset]) rfl (n := 36) rfl ?_
        refine iconst P at_36 (x := (3 : Int32)) rfl (n := 37) rfl ?_
        refine iloadN P at_37 rfl (n := 38) rfl ?_
        refine isub P at_38 (n := 39) rfl ?_
        rw [show ((3 : Int32) - (2 : Int32)) = (1 : Int32) from by decide]
        refine iload P at_39 rfl (n := 41) rfl ?_
        refine isub P at_41 (n := 42) rfl ?_
        rw [show ((1 : Int32) - (0 : Int32)) = (1 : Int32) from by decide]
        refine istore P at_42 (l' := #[.val (.int u), .val (.int w), .val (.int (2 : Int32)), .val (.int (1 : Int32)), .val (.int (1 : Int32)), .val (.int (0 : Int32)), .val (.int (1 : Int32)), .unset, .unset, .unset, .unset, .unset, .unset, .unset, .unset, .unset]) rfl (n := 44) rfl ?_
        refine iloadN P at_44 rfl (n := 45) rfl ?_
        refine iconst P at_45 (x := (1 : Int32)) rfl (n := 46) rfl ?_
        refine iadd P at_46 (n := 47) rfl ?_
        rw [show ((2 : Int32) + (1 : Int32)) = (3 : Int32) from by decide]
        refine istore P at_47 (l' := #[.val (.int u), .val (.int w), .val (.int (2 : Int32)), .val (.int (1 : Int32)), .val (.int (1 : Int32)), .val (.int (0 : Int32)), .val (.int (1 : Int32)), .val (.int (3 : Int32)), .unset, .unset, .unset, .unset, .unset, .unset, .unset, .unset]) rfl (n := 49) rfl ?_
        refine iload P at_49 rfl (n := 51) rfl ?_
        refine iconst P at_51 (x := (1 : Int32)) rfl (n := 52) rfl ?_
        refine iadd P at_52 (n := 53) rfl ?_
        rw [show ((0 : Int32) + (1 : Int32)) = (1 : Int32) from by decide]
        refine istore P at_53 (l' := #[.val (.int u), .val (.int w), .val (.int (2 : Int32)), .val (.int (1 : Int32)), .val (.int (1 : Int32)), .val (.int (0 : Int32)), .val (.int (1 : Int32)), .val (.int (3 : Int32)), .val (.int (1 : Int32)), .unset, .unset, .unset, .unset, .unset, .unset, .unset]) rfl (n := 55) rfl ?_
        refine iload P at_55 rfl (n := 57) rfl ?_
        refine iconst P at_57 (x := (1 : Int32)) rfl (n := 58) rfl ?_
        refine iadd P at_58 (n := 59) rfl ?_
        rw [show ((1 : Int32) + (1 : Int32)) = (2 : Int32) from by decide]
        refine istore P at_59 (l' := #[.val (.int u), .val (.int w), .val (.int (2 : Int32)), .val (.int (1 : Int32)), .val (.int (1 : Int32)), .val (.int (0 : Int32)), .val (.int (1 : Int32)), .val (.int (3 : Int32)), .val (.int (1 : Int32)), .val (.int (2 : Int32)), .unset, .unset, .unset, .unset, .unset, .unset]) rfl (n := 61) rfl ?_
        refine iloadN P at_61 rfl (n := 62) rfl ?_
        refine if0_ne P at_62 (n' := 69) (n := 65) (by decide) rfl (fun hc62 => ?_) (fun hc62 => ?_)
        · -- pc 62 taken
          replace hc62 : ¬ (2 : Int) = (0 : Int) := hc62
          refine iconst P at_69 (x := (1 : Int32)) rfl (n := 70) rfl ?_
          refine istore P at_70 (l' := #[.val (.int u), .val (.int w), .val (.int (2 : Int32)), .val (.int (1 : Int32)), .val (.int (1 : Int32)), .val (.int (0 : Int32)), .val (.int (1 : Int32)), .val (.int (3 : Int32)), .val (.int (1 : Int32)), .val (.int (2 : Int32)), .val (.int (1 : Int32)), .unset, .unset, .unset, .unset, .unset]) rfl (n := 72) rfl ?_
          refine iloadN P at_72 rfl (n := 73) rfl ?_
          refine iconst P at_73 (x := (2 : Int32)) rfl (n := 74) rfl ?_
          refine icmp_ne P at_74 (n' := 81) (n := 77) (by decide) rfl (fun hc74 => ?_) (fun hc74 => ?_)
          · -- pc 74 taken
            replace hc74 : ¬ (2 : Int) = (2 : Int) := hc74
            exact absurd hc74 (by decide)
          · -- pc 74 not taken
            replace hc74 : (2 : Int) = (2 : Int) := hc74
            refine iconst P at_77 (x := (2 : Int32)) rfl (n := 78) rfl ?_
            refine goto P at_78 (n := 82) (by decide) ?_
            refine istore P at_82 (l' := #[.val (.int u), .val (.int w), .val (.int (2 : Int32)), .val (.int (1 : Int32)), .val (.int (1 : Int32)), .val (.int (0 : Int32)), .val (.int (1 : Int32)), .val (.int (3 : Int32)), .val (.int (1 : Int32)), .val (.int (2 : Int32)), .val (.int (1 : Int32)), .val (.int (2 : Int32)), .unset, .unset, .unset, .unset]) rfl (n := 84) rfl ?_
            refine newO P at_84 (hw _ (List.mem_of_getElem? (i := 1) rfl)) (hw _ (List.mem_of_getElem? (i := 2) rfl)) (hw _ (List.mem_of_getElem? (i := 3) rfl)) (by decide) (by decide) (n := 87) rfl ?_
            intro T h262 b261 P X263 g264 lo_b261 E_b261 D_b261
            have F_b261_ids := D_b261 (Or.inl (hw _ (List.mem_of_getElem? (i := 12) rfl))) (ty := (.array .long)) (by decide)
            have F_b261_ordinals := D_b261 (Or.inl (hw _ (List.mem_of_getElem? (i := 15) rfl))) (ty := (.array .int)) (by decide)
            have F_b261_firstSeconds := D_b261 (Or.inl (hw _ (List.mem_of_getElem? (i := 17) rfl))) (ty := (.array .long)) (by decide)
            have F_b261_firstNanos := D_b261 (Or.inl (hw _ (List.mem_of_getElem? (i := 19) rfl))) (ty := (.array .int)) (by decide)
            have F_b261_lastSeconds := D_b261 (Or.inl (hw _ (List.mem_of_getElem? (i := 21) rfl))) (ty := (.array .long)) (by decide)
            have F_b261_lastNanos := D_b261 (Or.inl (hw _ (List.mem_of_getElem? (i := 23) rfl))) (ty := (.array .int)) (by decide)
            have F_b261_records := D_b261 (Or.inl (hw _ (List.mem_of_getElem? (i := 25) rfl))) (ty := (.array .long)) (by decide)
            have F_b261_entities := D_b261 (Or.inl (hw _ (List.mem_of_getElem? (i := 27) rfl))) (ty := (.array .int)) (by decide)
            have F_b261_others := D_b261 (Or.inl (hw _ (List.mem_of_getElem? (i := 31) rfl))) (ty := (.array (.array .int))) (by decide)
            have F_b261_otherCounts := D_b261 (Or.inl (hw _ (List.mem_of_getElem? (i := 33) rfl))) (ty := (.array .int)) (by decide)
            have F_b261_earlier := D_b261 (Or.inl (hw _ (List.mem_of_getElem? (i := 35) rfl))) (ty := (.array .int)) (by decide)
            have F_b261_later := D_b261 (Or.inl (hw _ (List.mem_of_getElem? (i := 37) rfl))) (ty := (.array .int)) (by decide)
            have F_b261_unused := D_b261 (Or.inl (hw _ (List.mem_of_getElem? (i := 39) rfl))) (ty := .int) (by decide)
            have F_b261_used := D_b261 (Or.inl (hw _ (List.mem_of_getElem? (i := 41) rfl))) (ty := .int) (by decide)
            refine dup P at_87 rfl (n := 88) rfl ?_
            refine callN P at_88 (a := b261) (argsL := []) (rest := [(.ref b261)]) (c_new l Z a0 hw b261 h262 n0 P.low E_b261 F_b261_unused F_b261_used F_b261_ids F_b261_ordinals F_b261_firstSeconds F_b261_firstNanos F_b261_lastSeconds F_b261_lastNanos F_b261_records F_b261_entities F_b261_others F_b261_otherCounts F_b261_earlier F_b261_later lo_b261) rfl (hw _ (List.mem_of_getElem? (i := 4) rfl)) (hw _ (List.mem_of_getElem? (i := 5) rfl)) (hw _ (List.mem_of_getElem? (i := 3) rfl)) (hw _ (List.mem_of_getElem? (i := 6) rfl)) (by decide) pd_1 rfl rfl rfl ⟨by decide, Nat.le_of_ble_eq_true rfl, by decide, by decide⟩ (n := 91) rfl ?_
            rintro T h265 v P ⟨rfl, O266⟩
            show Jvm.Own.Ends p e below s room_1 n0 (fun v _ => v = some (.int 1)) T (mkF m 91 #[.val (.int u), .val (.int w), .val (.int (2 : Int32)), .val (.int (1 : Int32)), .val (.int (1 : Int32)), .val (.int (0 : Int32)), .val (.int (1 : Int32)), .val (.int (3 : Int32)), .val (.int (1 : Int32)), .val (.int (2 : Int32)), .val (.int (1 : Int32)), .val (.int (2 : Int32)), .unset, .unset, .unset, .unset] [(.ref b261)])
            rw [own_tab0] at O266
            replace O266 : own_OS Z n0 h265 b261 (0 : Int32) (1 : Int32) (own_tab [0, 0, 0, 0, 0, 0]) (own_tab [0, 0, 0, 0, 0, 0]) := O266
            refine astore P at_91 rfl (l' := #[.val (.int u), .val (.int w), .val (.int (2 : Int32)), .val (.int (1 : Int32)), .val (.int (1 : Int32)), .val (.int (0 : Int32)), .val (.int (1 : Int32)), .val (.int (3 : Int32)), .val (.int (1 : Int32)), .val (.int (2 : Int32)), .val (.int (1 : Int32)), .val (.int (2 : Int32)), .val (.ref b261), .unset, .unset, .unset]) rfl (n := 93) rfl ?_
            refine aload P at_93 rfl rfl (n := 95) rfl ?_
            refine ldc2J P at_95 (hw _ (List.mem_of_getElem? (i := 42) rfl)) (n := 98) rfl ?_
            refine iconst P at_98 (x := (1 : Int32)) rfl (n := 99) rfl ?_
            refine lconst P at_99 (x := (0 : Int64)) rfl (n := 100) rfl ?_
            refine iconst P at_100 (x := (0 : Int32)) rfl (n := 101) rfl ?_
            refine iconst P at_101 (x := (1 : Int32)) rfl (n := 102) rfl ?_
            refine callV P at_102 (a := b261) (argsL := [(.long (10 : Int64)), (.int (1 : Int32)), (.long (0 : Int64)), (.int (0 : Int32)), (.int (1 : Int32))]) (rest := []) (c_open l Z a0 hw b261 (10 : Int64) (1 : Int32) (0 : Int64) (0 : Int32) (1 : Int32) (0 : Int32) (1 : Int32) (own_tab [0, 0, 0, 0, 0, 0]) (own_tab [0, 0, 0, 0, 0, 0]) h265 n0 P.low O266 (by decide) (by decide) (by decide)) (own_OS_exa O266) (hw _ (List.mem_of_getElem? (i := 43) rfl)) (hw _ (List.mem_of_getElem? (i := 44) rfl)) (notFace_of_selects (args := #[]) (mvT P.hZ (hw _ (List.mem_of_getElem? (i := 46) rfl)))) (hw _ (List.mem_of_getElem? (i := 46) rfl)) (hw _ (List.mem_of_getElem? (i := 45) rfl)) (hw _ (List.mem_of_getElem? (i := 3) rfl)) (hw _ (List.mem_of_getElem? (i := 47) rfl)) (by decide) pd_2 rfl rfl rfl ⟨by decide, Nat.le_of_ble_eq_true rfl, by decide, by decide⟩ (n := 105) rfl ?_
            rintro T h267 v P hq
            obtain ⟨rfl, O268⟩ := hq.1 (by decide)
            show Jvm.Own.Ends p e below s room_1 n0 (fun v _ => v = some (.int 1)) T (mkF m 105 #[.val (.int u), .val (.int w), .val (.int (2 : Int32)), .val (.int (1 : Int32)), .val (.int (1 : Int32)), .val (.int (0 : Int32)), .val (.int (1 : Int32)), .val (.int (3 : Int32)), .val (.int (1 : Int32)), .val (.int (2 : Int32)), .val (.int (1 : Int32)), .val (.int (2 : Int32)), .val (.ref b261), .unset, .unset, .unset] [(.int (1 : Int32))])
            have t269 : (ovr (ovr (own_tab [0, 0, 0, 0, 0, 0]) (1 : Int32).toInt.toNat ((own_tab [0, 0, 0, 0, 0, 0]) 0)) 0 (1 : Int32)) = own_tab [1, 0, 0, 0, 0, 0] := by rw [own_tab_set [0, 0, 0, 0, 0, 0] (1 : Int32).toInt.toNat ((own_tab [0, 0, 0, 0, 0, 0]) 0) (by decide), own_tab_set ([0, 0, 0, 0, 0, 0].set (1 : Int32).toInt.toNat ((own_tab [0, 0, 0, 0, 0, 0]) 0)) 0 (1 : Int32) (by decide)]; rfl
            rw [t269] at O268
            have t270 : (ovr (ovr (own_tab [0, 0, 0, 0, 0, 0]) (1 : Int32).toInt.toNat 0) ((own_tab [0, 0, 0, 0, 0, 0]) 0).toInt.toNat (1 : Int32)) = own_tab [1, 0, 0, 0, 0, 0] := by rw [own_tab_set [0, 0, 0, 0, 0, 0] (1 : Int32).toInt.toNat 0 (by decide), own_tab_set ([0, 0, 0, 0, 0, 0].set (1 : Int32).toInt.toNat 0) ((own_tab [0, 0, 0, 0, 0, 0]) 0).toInt.toNat (1 : Int32) (by decide)]; rfl
            rw [t270] at O268
            replace O268 : own_OS Z n0 h267 b261 (0 : Int32) (2 : Int32) (own_tab [1, 0, 0, 0, 0, 0]) (own_tab [1, 0, 0, 0, 0, 0]) := O268
            refine istore P at_105 (l' := #[.val (.int u), .val (.int w), .val (.int (2 : Int32)), .val (.int (1 : Int32)), .val (.int (1 : Int32)), .val (.int (0 : Int32)), .val (.int (1 : Int32)), .val (.int (3 : Int32)), .val (.int (1 : Int32)), .val (.int (2 : Int32)), .val (.int (1 : Int32)), .val (.int (2 : Int32)), .val (.ref b261), .val (.int (1 : Int32)), .unset, .unset]) rfl (n := 107) rfl ?_
            refine aload P at_107 rfl rfl (n := 109) rfl ?_
            refine ldc2J P at_109 (hw _ (List.mem_of_getElem? (i := 52) rfl)) (n := 112) rfl ?_
            refine iconst P at_112 (x := (1 : Int32)) rfl (n := 113) rfl ?_
            refine lconst P at_113 (x := (1 : Int64)) rfl (n := 114) rfl ?_
            refine iconst P at_114 (x := (0 : Int32)) rfl (n := 115) rfl ?_
            refine iconst P at_115 (x := (2 : Int32)) rfl (n := 116) rfl ?_
            refine callV P at_116 (a := b261) (argsL := [(.long (20 : Int64)), (.int (1 : Int32)), (.long (1 : Int64)), (.int (0 : Int32)), (.int (2 : Int32))]) (rest := []) (c_open l Z a0 hw b261 (20 : Int64) (1 : Int32) (1 : Int64) (0 : Int32) (2 : Int32) (0 : Int32) (2 : Int32) (own_tab [1, 0, 0, 0, 0, 0]) (own_tab [1, 0, 0, 0, 0, 0]) h267 n0 P.low O268 (by decide) (by decide) (by decide)) (own_OS_exa O268) (hw _ (List.mem_of_getElem? (i := 43) rfl)) (hw _ (List.mem_of_getElem? (i := 44) rfl)) (notFace_of_selects (args := #[]) (mvT P.hZ (hw _ (List.mem_of_getElem? (i := 46) rfl)))) (hw _ (List.mem_of_getElem? (i := 46) rfl)) (hw _ (List.mem_of_getElem? (i := 45) rfl)) (hw _ (List.mem_of_getElem? (i := 3) rfl)) (hw _ (List.mem_of_getElem? (i := 47) rfl)) (by decide) pd_2 rfl rfl rfl ⟨by decide, Nat.le_of_ble_eq_true rfl, by decide, by decide⟩ (n := 119) rfl ?_
            rintro T h271 v P hq
            obtain ⟨rfl, O272⟩ := hq.1 (by decide)
            show Jvm.Own.Ends p e below s room_1 n0 (fun v _ => v = some (.int 1)) T (mkF m 119 #[.val (.int u), .val (.int w), .val (.int (2 : Int32)), .val (.int (1 : Int32)), .val (.int (1 : Int32)), .val (.int (0 : Int32)), .val (.int (1 : Int32)), .val (.int (3 : Int32)), .val (.int (1 : Int32)), .val (.int (2 : Int32)), .val (.int (1 : Int32)), .val (.int (2 : Int32)), .val (.ref b261), .val (.int (1 : Int32)), .unset, .unset] [(.int (2 : Int32))])
            have t273 : (ovr (ovr (own_tab [1, 0, 0, 0, 0, 0]) (2 : Int32).toInt.toNat ((own_tab [1, 0, 0, 0, 0, 0]) 0)) 0 (2 : Int32)) = own_tab [2, 0, 1, 0, 0, 0] := by rw [own_tab_set [1, 0, 0, 0, 0, 0] (2 : Int32).toInt.toNat ((own_tab [1, 0, 0, 0, 0, 0]) 0) (by decide), own_tab_set ([1, 0, 0, 0, 0, 0].set (2 : Int32).toInt.toNat ((own_tab [1, 0, 0, 0, 0, 0]) 0)) 0 (2 : Int32) (by decide)]; rfl
            rw [t273] at O272
            have t274 : (ovr (ovr (own_tab [1, 0, 0, 0, 0, 0]) (2 : Int32).toInt.toNat 0) ((own_tab [1, 0, 0, 0, 0, 0]) 0).toInt.toNat (2 : Int32)) = own_tab [1, 2, 0, 0, 0, 0] := by rw [own_tab_set [1, 0, 0, 0, 0, 0] (2 : Int32).toInt.toNat 0 (by decide), own_tab_set ([1, 0, 0, 0, 0, 0].set (2 : Int32).toInt.toNat 0) ((own_tab [1, 0, 0, 0, 0, 0]) 0).toInt.toNat (2 : Int32) (by decide)]; rfl
            rw [t274] at O272
            replace O272 : own_OS Z n0 h271 b261 (0 : Int32) (3 : Int32) (own_tab [2, 0, 1, 0, 0, 0]) (own_tab [1, 2, 0, 0, 0, 0]) := O272
            refine istore P at_119 (l' := #[.val (.int u), .val (.int w), .val (.int (2 : Int32)), .val (.int (1 : Int32)), .val (.int (1 : Int32)), .val (.int (0 : Int32)), .val (.int (1 : Int32)), .val (.int (3 : Int32)), .val (.int (1 : Int32)), .val (.int (2 : Int32)), .val (.int (1 : Int32)), .val (.int (2 : Int32)), .val (.ref b261), .val (.int (1 : Int32)), .val (.int (2 : Int32)), .unset]) rfl (n := 121) rfl ?_
            refine aload P at_121 rfl rfl (n := 123) rfl ?_
            refine ldc2J P at_123 (hw _ (List.mem_of_getElem? (i := 53) rfl)) (n := 126) rfl ?_
            refine iconst P at_126 (x := (1 : Int32)) rfl (n := 127) rfl ?_
            refine ldc2J P at_127 (hw _ (List.mem_of_getElem? (i := 54) rfl)) (n := 130) rfl ?_
            refine iconst P at_130 (x := (0 : Int32)) rfl (n := 131) rfl ?_
            refine iconst P at_131 (x := (3 : Int32)) rfl (n := 132) rfl ?_
            refine callV P at_132 (a := b261) (argsL := [(.long (30 : Int64)), (.int (1 : Int32)), (.long (2 : Int64)), (.int (0 : Int32)), (.int (3 : Int32))]) (rest := []) (c_open l Z a0 hw b261 (30 : Int64) (1 : Int32) (2 : Int64) (0 : Int32) (3 : Int32) (0 : Int32) (3 : Int32) (own_tab [2, 0, 1, 0, 0, 0]) (own_tab [1, 2, 0, 0, 0, 0]) h271 n0 P.low O272 (by decide) (by decide) (by decide)) (own_OS_exa O272) (hw _ (List.mem_of_getElem? (i := 43) rfl)) (hw _ (List.mem_of_getElem? (i := 44) rfl)) (notFace_of_selects (args := #[]) (mvT P.hZ (hw _ (List.mem_of_getElem? (i := 46) rfl)))) (hw _ (List.mem_of_getElem? (i := 46) rfl)) (hw _ (List.mem_of_getElem? (i := 45) rfl)) (hw _ (List.mem_of_getElem? (i := 3) rfl)) (hw _ (List.mem_of_getElem? (i := 47) rfl)) (by decide) pd_2 rfl rfl rfl ⟨by decide, Nat.le_of_ble_eq_true rfl, by decide, by decide⟩ (n := 135) rfl ?_
            rintro T h275 v P hq
            obtain ⟨rfl, O276⟩ := hq.1 (by decide)
            show Jvm.Own.Ends p e below s room_1 n0 (fun v _ => v = some (.int 1)) T (mkF m 135 #[.val (.int u), .val (.int w), .val (.int (2 : Int32)), .val (.int (1 : Int32)), .val (.int (1 : Int32)), .val (.int (0 : Int32)), .val (.int (1 : Int32)), .val (.int (3 : Int32)), .val (.int (1 : Int32)), .val (.int (2 : Int32)), .val (.int (1 : Int32)), .val (.int (2 : Int32)), .val (.ref b261), .val (.int (1 : Int32)), .val (.int (2 : Int32)), .unset] [(.int (3 : Int32))])
            have t277 : (ovr (ovr (own_tab [2, 0, 1, 0, 0, 0]) (3 : Int32).toInt.toNat ((own_tab [2, 0, 1, 0, 0, 0]) 0)) 0 (3 : Int32)) = own_tab [3, 0, 1, 2, 0, 0] := by rw [own_tab_set [2, 0, 1, 0, 0, 0] (3 : Int32).toInt.toNat ((own_tab [2, 0, 1, 0, 0, 0]) 0) (by decide), own_tab_set ([2, 0, 1, 0, 0, 0].set (3 : Int32).toInt.toNat ((own_tab [2, 0, 1, 0, 0, 0]) 0)) 0 (3 : Int32) (by decide)]; rfl
            rw [t277] at O276
            have t278 : (ovr (ovr (own_tab [1, 2, 0, 0, 0, 0]) (3 : Int32).toInt.toNat 0) ((own_tab [2, 0, 1, 0, 0, 0]) 0).toInt.toNat (3 : Int32)) = own_tab [1, 2, 3, 0, 0, 0] := by rw [own_tab_set [1, 2, 0, 0, 0, 0] (3 : Int32).toInt.toNat 0 (by decide), own_tab_set ([1, 2, 0, 0, 0, 0].set (3 : Int32).toInt.toNat 0) ((own_tab [2, 0, 1, 0, 0, 0]) 0).toInt.toNat (3 : Int32) (by decide)]; rfl
            rw [t278] at O276
            replace O276 : own_OS Z n0 h275 b261 (0 : Int32) (4 : Int32) (own_tab [3, 0, 1, 2, 0, 0]) (own_tab [1, 2, 3, 0, 0, 0]) := O276
            refine istore P at_135 (l' := #[.val (.int u), .val (.int w), .val (.int (2 : Int32)), .val (.int (1 : Int32)), .val (.int (1 : Int32)), .val (.int (0 : Int32)), .val (.int (1 : Int32)), .val (.int (3 : Int32)), .val (.int (1 : Int32)), .val (.int (2 : Int32)), .val (.int (1 : Int32)), .val (.int (2 : Int32)), .val (.ref b261), .val (.int (1 : Int32)), .val (.int (2 : Int32)), .val (.int (3 : Int32))]) rfl (n := 137) rfl ?_
            refine iload P at_137 rfl (n := 139) rfl ?_
            refine iconst P at_139 (x := (1 : Int32)) rfl (n := 140) rfl ?_
            refine icmp_ne P at_140 (n' := 155) (n := 143) (by decide) rfl (fun hc140 => ?_) (fun hc140 => ?_)
            · -- pc 140 taken
              replace hc140 : ¬ (1 : Int) = (1 : Int) := hc140
              exact absurd hc140 (by decide)
            · -- pc 140 not taken
              replace hc140 : (1 : Int) = (1 : Int) := hc140
              refine iload P at_143 rfl (n := 145) rfl ?_
              refine iconst P at_145 (x := (2 : Int32)) rfl (n := 146) rfl ?_
              refine icmp_ne P at_146 (n' := 155) (n := 149) (by decide) rfl (fun hc146 => ?_) (fun hc146 => ?_)
              · -- pc 146 taken
                replace hc146 : ¬ (2 : Int) = (2 : Int) := hc146
                exact absurd hc146 (by decide)
              · -- pc 146 not taken
                replace hc146 : (2 : Int) = (2 : Int) := hc146
                refine iload P at_149 rfl (n := 151) rfl ?_
                refine iconst P at_151 (x := (3 : Int32)) rfl (n := 152) rfl ?_
                refine icmp_eq P at_152 (n' := 157) (n := 155) (by decide) rfl (fun hc152 => ?_) (fun hc152 => ?_)
                · -- pc 152 taken
                  replace hc152 : (3 : Int) = (3 : Int) := hc152
                  refine aload P at_157 rfl rfl (n := 159) rfl ?_
                  refine iload P at_159 rfl (n := 161) rfl ?_
                  refine callV P at_161 (a := b261) (argsL := [(.int (3 : Int32))]) (rest := []) (c_end l Z a0 hw b261 (3 : Int32) (0 : Int32) (4 : Int32) (own_tab [3, 0, 1, 2, 0, 0]) (own_tab [1, 2, 3, 0, 0, 0]) h275 n0 P.low O276 (by decide) (by decide) (by decide) (by decide)) (own_OS_exa O276) (hw _ (List.mem_of_getElem? (i := 55) rfl)) (hw _ (List.mem_of_getElem? (i := 56) rfl)) (notFace_of_selects (args := #[]) (mvT P.hZ (hw _ (List.mem_of_getElem? (i := 58) rfl)))) (hw _ (List.mem_of_getElem? (i := 58) rfl)) (hw _ (List.mem_of_getElem? (i := 57) rfl)) (hw _ (List.mem_of_getElem? (i := 3) rfl)) (hw _ (List.mem_of_getElem? (i := 59) rfl)) (by decide) pd_0 rfl rfl rfl ⟨by decide, Nat.le_of_ble_eq_true rfl, by decide, by decide⟩ (n := 164) rfl ?_
                  rintro T h279 v P ⟨rfl, O280⟩
                  show Jvm.Own.Ends p e below s room_1 n0 (fun v _ => v = some (.int 1)) T (mkF m 164 #[.val (.int u), .val (.int w), .val (.int (2 : Int32)), .val (.int (1 : Int32)), .val (.int (1 : Int32)), .val (.int (0 : Int32)), .val (.int (1 : Int32)), .val (.int (3 : Int32)), .val (.int (1 : Int32)), .val (.int (2 : Int32)), .val (.int (1 : Int32)), .val (.int (2 : Int32)), .val (.ref b261), .val (.int (1 : Int32)), .val (.int (2 : Int32)), .val (.int (3 : Int32))] [])
                  have t281 : (ovr (own_tab [1, 2, 3, 0, 0, 0]) ((own_tab [3, 0, 1, 2, 0, 0]) (3 : Int32).toInt.toNat).toInt.toNat ((own_tab [1, 2, 3, 0, 0, 0]) (3 : Int32).toInt.toNat)) = own_tab [1, 2, 0, 0, 0, 0] := by rw [own_tab_set [1, 2, 3, 0, 0, 0] ((own_tab [3, 0, 1, 2, 0, 0]) (3 : Int32).toInt.toNat).toInt.toNat ((own_tab [1, 2, 3, 0, 0, 0]) (3 : Int32).toInt.toNat) (by decide)]; rfl
                  rw [t281] at O280
                  have t282 : (ovr (own_tab [1, 2, 0, 0, 0, 0]) (3 : Int32).toInt.toNat (0 : Int32)) = own_tab [1, 2, 0, 0, 0, 0] := by rw [own_tab_set [1, 2, 0, 0, 0, 0] (3 : Int32).toInt.toNat (0 : Int32) (by decide)]; rfl
                  rw [t282] at O280
                  have t283 : (ovr (own_tab [3, 0, 1, 2, 0, 0]) ((own_tab [1, 2, 0, 0, 0, 0]) (3 : Int32).toInt.toNat).toInt.toNat ((own_tab [3, 0, 1, 2, 0, 0]) (3 : Int32).toInt.toNat)) = own_tab [2, 0, 1, 2, 0, 0] := by rw [own_tab_set [3, 0, 1, 2, 0, 0] ((own_tab [1, 2, 0, 0, 0, 0]) (3 : Int32).toInt.toNat).toInt.toNat ((own_tab [3, 0, 1, 2, 0, 0]) (3 : Int32).toInt.toNat) (by decide)]; rfl
                  rw [t283] at O280
                  replace O280 : own_OS Z n0 h279 b261 (3 : Int32) (4 : Int32) (own_tab [2, 0, 1, 2, 0, 0]) (own_tab [1, 2, 0, 0, 0, 0]) := O280
                  refine iloadN P at_164 rfl (n := 165) rfl ?_
                  refine if0_ne P at_165 (n' := 253) (n := 168) (by decide) rfl (fun hc165 => ?_) (fun hc165 => ?_)
                  · -- pc 165 taken
                    replace hc165 : ¬ (1 : Int) = (0 : Int) := hc165
                    refine aload P at_253 rfl rfl (n := 255) rfl ?_
                    refine iload P at_255 rfl (n := 257) rfl ?_
                    refine callV P at_257 (a := b261) (argsL := [(.int (1 : Int32))]) (rest := []) (c_end l Z a0 hw b261 (1 : Int32) (3 : Int32) (4 : Int32) (own_tab [2, 0, 1, 2, 0, 0]) (own_tab [1, 2, 0, 0, 0, 0]) h279 n0 P.low O280 (by decide) (by decide) (by decide) (by decide)) (own_OS_exa O280) (hw _ (List.mem_of_getElem? (i := 55) rfl)) (hw _ (List.mem_of_getElem? (i := 56) rfl)) (notFace_of_selects (args := #[]) (mvT P.hZ (hw _ (List.mem_of_getElem? (i := 58) rfl)))) (hw _ (List.mem_of_getElem? (i := 58) rfl)) (hw _ (List.mem_of_getElem? (i := 57) rfl)) (hw _ (List.mem_of_getElem? (i := 3) rfl)) (hw _ (List.mem_of_getElem? (i := 59) rfl)) (by decide) pd_0 rfl rfl rfl ⟨by decide, Nat.le_of_ble_eq_true rfl, by decide, by decide⟩ (n := 260) rfl ?_
                    rintro T h284 v P ⟨rfl, O285⟩
                    show Jvm.Own.Ends p e below s room_1 n0 (fun v _ => v = some (.int 1)) T (mkF m 260 #[.val (.int u), .val (.int w), .val (.int (2 : Int32)), .val (.int (1 : Int32)), .val (.int (1 : Int32)), .val (.int (0 : Int32)), .val (.int (1 : Int32)), .val (.int (3 : Int32)), .val (.int (1 : Int32)), .val (.int (2 : Int32)), .val (.int (1 : Int32)), .val (.int (2 : Int32)), .val (.ref b261), .val (.int (1 : Int32)), .val (.int (2 : Int32)), .val (.int (3 : Int32))] [])
                    have t286 : (ovr (own_tab [1, 2, 0, 0, 0, 0]) ((own_tab [2, 0, 1, 2, 0, 0]) (1 : Int32).toInt.toNat).toInt.toNat ((own_tab [1, 2, 0, 0, 0, 0]) (1 : Int32).toInt.toNat)) = own_tab [2, 2, 0, 0, 0, 0] := by rw [own_tab_set [1, 2, 0, 0, 0, 0] ((own_tab [2, 0, 1, 2, 0, 0]) (1 : Int32).toInt.toNat).toInt.toNat ((own_tab [1, 2, 0, 0, 0, 0]) (1 : Int32).toInt.toNat) (by decide)]; rfl
                    rw [t286] at O285
                    have t287 : (ovr (own_tab [2, 2, 0, 0, 0, 0]) (1 : Int32).toInt.toNat (3 : Int32)) = own_tab [2, 3, 0, 0, 0, 0] := by rw [own_tab_set [2, 2, 0, 0, 0, 0] (1 : Int32).toInt.toNat (3 : Int32) (by decide)]; rfl
                    rw [t287] at O285
                    have t288 : (ovr (own_tab [2, 0, 1, 2, 0, 0]) ((own_tab [2, 2, 0, 0, 0, 0]) (1 : Int32).toInt.toNat).toInt.toNat ((own_tab [2, 0, 1, 2, 0, 0]) (1 : Int32).toInt.toNat)) = own_tab [2, 0, 0, 2, 0, 0] := by rw [own_tab_set [2, 0, 1, 2, 0, 0] ((own_tab [2, 2, 0, 0, 0, 0]) (1 : Int32).toInt.toNat).toInt.toNat ((own_tab [2, 0, 1, 2, 0, 0]) (1 : Int32).toInt.toNat) (by decide)]; rfl
                    rw [t288] at O285
                    replace O285 : own_OS Z n0 h284 b261 (1 : Int32) (4 : Int32) (own_tab [2, 0, 0, 2, 0, 0]) (own_tab [2, 3, 0, 0, 0, 0]) := O285
                    refine aload P at_260 rfl rfl (n := 262) rfl ?_
                    refine callV P at_262 (a := b261) (argsL := []) (rest := []) (c_first l Z a0 hw b261 (1 : Int32) (4 : Int32) (own_tab [2, 0, 0, 2, 0, 0]) (own_tab [2, 3, 0, 0, 0, 0]) h284 n0 P.low O285) (own_OS_exa O285) (hw _ (List.mem_of_getElem? (i := 64) rfl)) (hw _ (List.mem_of_getElem? (i := 65) rfl)) (notFace_of_selects (args := #[]) (mvT P.hZ (hw _ (List.mem_of_getElem? (i := 67) rfl)))) (hw _ (List.mem_of_getElem? (i := 67) rfl)) (hw _ (List.mem_of_getElem? (i := 66) rfl)) (hw _ (List.mem_of_getElem? (i := 3) rfl)) (hw _ (List.mem_of_getElem? (i := 68) rfl)) (by decide) pd_3 rfl rfl rfl ⟨by decide, Nat.le_of_ble_eq_true rfl, by decide, by decide⟩ (n := 265) rfl (Ret.on ?_)
                    intro T P
                    rw [show (own_tab [2, 3, 0, 0, 0, 0]) 0 = (2 : Int32) from rfl]
                    refine iload P at_265 rfl (n := 267) rfl ?_
                    refine icmp_eq P at_267 (n' := 272) (n := 270) (by decide) rfl (fun hc267 => ?_) (fun hc267 => ?_)
                    · -- pc 267 taken
                      replace hc267 : (2 : Int) = (2 : Int) := hc267
                      refine aload P at_272 rfl rfl (n := 274) rfl ?_
                      refine iload P at_274 rfl (n := 276) rfl ?_
                      refine callV P at_276 (a := b261) (argsL := [(.int (2 : Int32))]) (rest := []) (c_after l Z a0 hw b261 (2 : Int32) (1 : Int32) (4 : Int32) (own_tab [2, 0, 0, 2, 0, 0]) (own_tab [2, 3, 0, 0, 0, 0]) h284 n0 P.low O285 (by decide)) (own_OS_exa O285) (hw _ (List.mem_of_getElem? (i := 69) rfl)) (hw _ (List.mem_of_getElem? (i := 70) rfl)) (notFace_of_selects (args := #[]) (mvT P.hZ (hw _ (List.mem_of_getElem? (i := 72) rfl)))) (hw _ (List.mem_of_getElem? (i := 72) rfl)) (hw _ (List.mem_of_getElem? (i := 71) rfl)) (hw _ (List.mem_of_getElem? (i := 3) rfl)) (hw _ (List.mem_of_getElem? (i := 73) rfl)) (by decide) pd_4 rfl rfl rfl ⟨by decide, Nat.le_of_ble_eq_true rfl, by decide, by decide⟩ (n := 279) rfl (Ret.on ?_)
                      intro T P
                      rw [show (own_tab [2, 3, 0, 0, 0, 0]) (2 : Int32).toInt.toNat = (0 : Int32) from rfl]
                      refine if0_eq P at_279 (n' := 284) (n := 282) (by decide) rfl (fun hc279 => ?_) (fun hc279 => ?_)
                      · -- pc 279 taken
                        replace hc279 : (0 : Int) = (0 : Int) := hc279
                        refine aload P at_284 rfl rfl (n := 286) rfl ?_
                        refine ldc2J P at_286 (hw _ (List.mem_of_getElem? (i := 74) rfl)) (n := 289) rfl ?_
                        refine iconst P at_289 (x := (1 : Int32)) rfl (n := 290) rfl ?_
                        refine ldc2J P at_290 (hw _ (List.mem_of_getElem? (i := 75) rfl)) (n := 293) rfl ?_
                        refine iconst P at_293 (x := (0 : Int32)) rfl (n := 294) rfl ?_
                        refine iconst P at_294 (x := (4 : Int32)) rfl (n := 295) rfl ?_
                        refine callV P at_295 (a := b261) (argsL := [(.long (40 : Int64)), (.int (1 : Int32)), (.long (3 : Int64)), (.int (0 : Int32)), (.int (4 : Int32))]) (rest := []) (c_open l Z a0 hw b261 (40 : Int64) (1 : Int32) (3 : Int64) (0 : Int32) (4 : Int32) (1 : Int32) (4 : Int32) (own_tab [2, 0, 0, 2, 0, 0]) (own_tab [2, 3, 0, 0, 0, 0]) h284 n0 P.low O285 (by decide) (by decide) (by decide)) (own_OS_exa O285) (hw _ (List.mem_of_getElem? (i := 43) rfl)) (hw _ (List.mem_of_getElem? (i := 44) rfl)) (notFace_of_selects (args := #[]) (mvT P.hZ (hw _ (List.mem_of_getElem? (i := 46) rfl)))) (hw _ (List.mem_of_getElem? (i := 46) rfl)) (hw _ (List.mem_of_getElem? (i := 45) rfl)) (hw _ (List.mem_of_getElem? (i := 3) rfl)) (hw _ (List.mem_of_getElem? (i := 47) rfl)) (by decide) pd_2 rfl rfl rfl ⟨by decide, Nat.le_of_ble_eq_true rfl, by decide, by decide⟩ (n := 298) rfl ?_
                        rintro T h289 v P hq
                        obtain ⟨rfl, O290⟩ := hq.2 (by decide)
                        show Jvm.Own.Ends p e below s room_1 n0 (fun v _ => v = some (.int 1)) T (mkF m 298 #[.val (.int u), .val (.int w), .val (.int (2 : Int32)), .val (.int (1 : Int32)), .val (.int (1 : Int32)), .val (.int (0 : Int32)), .val (.int (1 : Int32)), .val (.int (3 : Int32)), .val (.int (1 : Int32)), .val (.int (2 : Int32)), .val (.int (1 : Int32)), .val (.int (2 : Int32)), .val (.ref b261), .val (.int (1 : Int32)), .val (.int (2 : Int32)), .val (.int (3 : Int32))] [(.int (1 : Int32))])
                        have t291 : (ovr (ovr (own_tab [2, 0, 0, 2, 0, 0]) (1 : Int32).toInt.toNat ((own_tab [2, 0, 0, 2, 0, 0]) 0)) 0 (1 : Int32)) = own_tab [1, 2, 0, 2, 0, 0] := by rw [own_tab_set [2, 0, 0, 2, 0, 0] (1 : Int32).toInt.toNat ((own_tab [2, 0, 0, 2, 0, 0]) 0) (by decide), own_tab_set ([2, 0, 0, 2, 0, 0].set (1 : Int32).toInt.toNat ((own_tab [2, 0, 0, 2, 0, 0]) 0)) 0 (1 : Int32) (by decide)]; rfl
                        rw [t291] at O290
                        have t292 : (ovr (ovr (own_tab [2, 3, 0, 0, 0, 0]) (1 : Int32).toInt.toNat 0) ((own_tab [2, 0, 0, 2, 0, 0]) 0).toInt.toNat (1 : Int32)) = own_tab [2, 0, 1, 0, 0, 0] := by rw [own_tab_set [2, 3, 0, 0, 0, 0] (1 : Int32).toInt.toNat 0 (by decide), own_tab_set ([2, 3, 0, 0, 0, 0].set (1 : Int32).toInt.toNat 0) ((own_tab [2, 0, 0, 2, 0, 0]) 0).toInt.toNat (1 : Int32) (by decide)]; rfl
                        rw [t292] at O290
                        replace O290 : own_OS Z n0 h289 b261 (3 : Int32) (4 : Int32) (own_tab [1, 2, 0, 2, 0, 0]) (own_tab [2, 0, 1, 0, 0, 0]) := O290
                        refine iload P at_298 rfl (n := 300) rfl ?_
                        refine icmp_eq P at_300 (n' := 305) (n := 303) (by decide) rfl (fun hc300 => ?_) (fun hc300 => ?_)
                        · -- pc 300 taken
                          replace hc300 : (1 : Int) = (1 : Int) := hc300
                          refine aload P at_305 rfl rfl (n := 307) rfl ?_
                          refine ldc2J P at_307 (hw _ (List.mem_of_getElem? (i := 76) rfl)) (n := 310) rfl ?_
                          refine iconst P at_310 (x := (1 : Int32)) rfl (n := 311) rfl ?_
                          refine ldc2J P at_311 (hw _ (List.mem_of_getElem? (i := 77) rfl)) (n := 314) rfl ?_
                          refine iconst P at_314 (x := (0 : Int32)) rfl (n := 315) rfl ?_
                          refine iconst P at_315 (x := (5 : Int32)) rfl (n := 316) rfl ?_
                          refine callV P at_316 (a := b261) (argsL := [(.long (50 : Int64)), (.int (1 : Int32)), (.long (4 : Int64)), (.int (0 : Int32)), (.int (5 : Int32))]) (rest := []) (c_open l Z a0 hw b261 (50 : Int64) (1 : Int32) (4 : Int64) (0 : Int32) (5 : Int32) (3 : Int32) (4 : Int32) (own_tab [1, 2, 0, 2, 0, 0]) (own_tab [2, 0, 1, 0, 0, 0]) h289 n0 P.low O290 (by decide) (by decide) (by decide)) (own_OS_exa O290) (hw _ (List.mem_of_getElem? (i := 43) rfl)) (hw _ (List.mem_of_getElem? (i := 44) rfl)) (notFace_of_selects (args := #[]) (mvT P.hZ (hw _ (List.mem_of_getElem? (i := 46) rfl)))) (hw _ (List.mem_of_getElem? (i := 46) rfl)) (hw _ (List.mem_of_getElem? (i := 45) rfl)) (hw _ (List.mem_of_getElem? (i := 3) rfl)) (hw _ (List.mem_of_getElem? (i := 47) rfl)) (by decide) pd_2 rfl rfl rfl ⟨by decide, Nat.le_of_ble_eq_true rfl, by decide, by decide⟩ (n := 319) rfl ?_
                          rintro T h293 v P hq
                          obtain ⟨rfl, O294⟩ := hq.2 (by decide)
                          show Jvm.Own.Ends p e below s room_1 n0 (fun v _ => v = some (.int 1)) T (mkF m 319 #[.val (.int u), .val (.int w), .val (.int (2 : Int32)), .val (.int (1 : Int32)), .val (.int (1 : Int32)), .val (.int (0 : Int32)), .val (.int (1 : Int32)), .val (.int (3 : Int32)), .val (.int (1 : Int32)), .val (.int (2 : Int32)), .val (.int (1 : Int32)), .val (.int (2 : Int32)), .val (.ref b261), .val (.int (1 : Int32)), .val (.int (2 : Int32)), .val (.int (3 : Int32))] [(.int (3 : Int32))])
                          have t295 : (ovr (ovr (own_tab [1, 2, 0, 2, 0, 0]) (3 : Int32).toInt.toNat ((own_tab [1, 2, 0, 2, 0, 0]) 0)) 0 (3 : Int32)) = own_tab [3, 2, 0, 1, 0, 0] := by rw [own_tab_set [1, 2, 0, 2, 0, 0] (3 : Int32).toInt.toNat ((own_tab [1, 2, 0, 2, 0, 0]) 0) (by decide), own_tab_set ([1, 2, 0, 2, 0, 0].set (3 : Int32).toInt.toNat ((own_tab [1, 2, 0, 2, 0, 0]) 0)) 0 (3 : Int32) (by decide)]; rfl
                          rw [t295] at O294
                          have t296 : (ovr (ovr (own_tab [2, 0, 1, 0, 0, 0]) (3 : Int32).toInt.toNat 0) ((own_tab [1, 2, 0, 2, 0, 0]) 0).toInt.toNat (3 : Int32)) = own_tab [2, 3, 1, 0, 0, 0] := by rw [own_tab_set [2, 0, 1, 0, 0, 0] (3 : Int32).toInt.toNat 0 (by decide), own_tab_set ([2, 0, 1, 0, 0, 0].set (3 : Int32).toInt.toNat 0) ((own_tab [1, 2, 0, 2, 0, 0]) 0).toInt.toNat (3 : Int32) (by decide)]; rfl
                          rw [t296] at O294
                          replace O294 : own_OS Z n0 h293 b261 (0 : Int32) (4 : Int32) (own_tab [3, 2, 0, 1, 0, 0]) (own_tab [2, 3, 1, 0, 0, 0]) := O294
                          refine iload P at_319 rfl (n := 321) rfl ?_
                          refine icmp_ne P at_321 (n' := 328) (n := 324) (by decide) rfl (fun hc321 => ?_) (fun hc321 => ?_)
                          · -- pc 321 taken
                            replace hc321 : ¬ (3 : Int) = (3 : Int) := hc321
                            exact absurd hc321 (by decide)
                          · -- pc 321 not taken
                            replace hc321 : (3 : Int) = (3 : Int) := hc321
                            refine iconst P at_324 (x := (1 : Int32)) rfl (n := 325) rfl ?_
                            refine goto P at_325 (n := 329) (by decide) ?_
                            refine retZ P at_329 (by decide) (by decide) (by decide) ?_
                            exact rfl
                        · -- pc 300 not taken
                          replace hc300 : ¬ (1 : Int) = (1 : Int) := hc300
                          exact absurd hc300 (by decide)
                      · -- pc 279 not taken
                        replace hc279 : ¬ (0 : Int) = (0 : Int) := hc279
                        exact absurd hc279 (by decide)
                    · -- pc 267 not taken
                      replace hc267 : ¬ (2 : Int) = (2 : Int) := hc267
                      exact absurd hc267 (by decide)
                  · -- pc 165 not taken
                    replace hc165 : (1 : Int) = (0 : Int) := hc165
                    exact absurd hc165 (by decide)
                · -- pc 152 not taken
                  replace hc152 : ¬ (3 : Int) = (3 : Int) := hc152
                  exact absurd hc152 (by decide)
        · -- pc 62 not taken
          replace hc62 : (2 : Int) = (0 : Int) := hc62
          exact absurd hc62 (by decide)
      ·
        obtain rfl : z260 = (2 : Int32) := eqI q26
        refine istore P at_26 (l' := #[.val (.int u), .val (.int w), .val (.int (2 : Int32)), .val (.int (1 : Int32)), .val (.int (2 : Int32)), .unset, .unset, .unset, .unset, .unset, .unset, .unset, .unset, .unset, .unset, .unset]) rfl (n := 28) rfl ?_
        refine iloadN P at_28 rfl (n := 29) rfl ?_
        refine iload P at_29 rfl (n := 31) rfl ?_
        refine iadd P at_31 (n := 32) rfl ?_
        rw [show ((2 : Int32) + (2 : Int32)) = (4 : Int32) from by decide]
        refine iconst P at_32 (x := (3 : Int32)) rfl (n := 33) rfl ?_
        refine irem P at_33 (by decide) (n := 34) rfl ?_
        rw [show ((4 : Int32) % (3 : Int32)) = (1 : Int32) from by decide]
        refine istore P at_34 (l' := #[.val (.int u), .val (.int w), .val (.int (2 : Int32)), .val (.int (1 : Int32)), .val (.int (2 : Int32)), .val (.int (1 : Int32)), .unset, .unset, .unset, .unset, .unset, .unset, .unset, .unset, .unset, .unset]) rfl (n := 36) rfl ?_
        refine iconst P at_36 (x := (3 : Int32)) rfl (n := 37) rfl ?_
        refine iloadN P at_37 rfl (n := 38) rfl ?_
        refine isub P at_38 (n := 39) rfl ?_
        rw [show ((3 : Int32) - (2 : Int32)) = (1 : Int32) from by decide]
        refine iload P at_39 rfl (n := 41) rfl ?_
        refine isub P at_41 (n := 42) rfl ?_
        rw [show ((1 : Int32) - (1 : Int32)) = (0 : Int32) from by decide]
        refine istore P at_42 (l' := #[.val (.int u), .val (.int w), .val (.int (2 : Int32)), .val (.int (1 : Int32)), .val (.int (2 : Int32)), .val (.int (1 : Int32)), .val (.int (0 : Int32)), .unset, .unset, .unset, .unset, .unset, .unset, .unset, .unset, .unset]) rfl (n := 44) rfl ?_
        refine iloadN P at_44 rfl (n := 45) rfl ?_
        refine iconst P at_45 (x := (1 : Int32)) rfl (n := 46) rfl ?_
        refine iadd P at_46 (n := 47) rfl ?_
        rw [show ((2 : Int32) + (1 : Int32)) = (3 : Int32) from by decide]
        refine istore P at_47 (l' := #[.val (.int u), .val (.int w), .val (.int (2 : Int32)), .val (.int (1 : Int32)), .val (.int (2 : Int32)), .val (.int (1 : Int32)), .val (.int (0 : Int32)), .val (.int (3 : Int32)), .unset, .unset, .unset, .unset, .unset, .unset, .unset, .unset]) rfl (n := 49) rfl ?_
        refine iload P at_49 rfl (n := 51) rfl ?_
        refine iconst P at_51 (x := (1 : Int32)) rfl (n := 52) rfl ?_
        refine iadd P at_52 (n := 53) rfl ?_
        rw [show ((1 : Int32) + (1 : Int32)) = (2 : Int32) from by decide]
        refine istore P at_53 (l' := #[.val (.int u), .val (.int w), .val (.int (2 : Int32)), .val (.int (1 : Int32)), .val (.int (2 : Int32)), .val (.int (1 : Int32)), .val (.int (0 : Int32)), .val (.int (3 : Int32)), .val (.int (2 : Int32)), .unset, .unset, .unset, .unset, .unset, .unset, .unset]) rfl (n := 55) rfl ?_
        refine iload P at_55 rfl (n := 57) rfl ?_
        refine iconst P at_57 (x := (1 : Int32)) rfl (n := 58) rfl ?_
        refine iadd P at_58 (n := 59) rfl ?_
        rw [show ((0 : Int32) + (1 : Int32)) = (1 : Int32) from by decide]
        refine istore P at_59 (l' := #[.val (.int u), .val (.int w), .val (.int (2 : Int32)), .val (.int (1 : Int32)), .val (.int (2 : Int32)), .val (.int (1 : Int32)), .val (.int (0 : Int32)), .val (.int (3 : Int32)), .val (.int (2 : Int32)), .val (.int (1 : Int32)), .unset, .unset, .unset, .unset, .unset, .unset]) rfl (n := 61) rfl ?_
        refine iloadN P at_61 rfl (n := 62) rfl ?_
        refine if0_ne P at_62 (n' := 69) (n := 65) (by decide) rfl (fun hc62 => ?_) (fun hc62 => ?_)
        · -- pc 62 taken
          replace hc62 : ¬ (2 : Int) = (0 : Int) := hc62
          refine iconst P at_69 (x := (1 : Int32)) rfl (n := 70) rfl ?_
          refine istore P at_70 (l' := #[.val (.int u), .val (.int w), .val (.int (2 : Int32)), .val (.int (1 : Int32)), .val (.int (2 : Int32)), .val (.int (1 : Int32)), .val (.int (0 : Int32)), .val (.int (3 : Int32)), .val (.int (2 : Int32)), .val (.int (1 : Int32)), .val (.int (1 : Int32)), .unset, .unset, .unset, .unset, .unset]) rfl (n := 72) rfl ?_
          refine iloadN P at_72 rfl (n := 73) rfl ?_
          refine iconst P at_73 (x := (2 : Int32)) rfl (n := 74) rfl ?_
          refine icmp_ne P at_74 (n' := 81) (n := 77) (by decide) rfl (fun hc74 => ?_) (fun hc74 => ?_)
          · -- pc 74 taken
            replace hc74 : ¬ (2 : Int) = (2 : Int) := hc74
            exact absurd hc74 (by decide)
          · -- pc 74 not taken
            replace hc74 : (2 : Int) = (2 : Int) := hc74
            refine iconst P at_77 (x := (2 : Int32)) rfl (n := 78) rfl ?_
            refine goto P at_78 (n := 82) (by decide) ?_
            refine istore P at_82 (l' := #[.val (.int u), .val (.int w), .val (.int (2 : Int32)), .val (.int (1 : Int32)), .val (.int (2 : Int32)), .val (.int (1 : Int32)), .val (.int (0 : Int32)), .val (.int (3 : Int32)), .val (.int (2 : Int32)), .val (.int (1 : Int32)), .val (.int (1 : Int32)), .val (.int (2 : Int32)), .unset, .unset, .unset, .unset]) rfl (n := 84) rfl ?_
            refine newO P at_84 (hw _ (List.mem_of_getElem? (i := 1) rfl)) (hw _ (List.mem_of_getElem? (i := 2) rfl)) (hw _ (List.mem_of_getElem? (i := 3) rfl)) (by decide) (by decide) (n := 87) rfl ?_
            intro T h298 b297 P X299 g300 lo_b297 E_b297 D_b297
            have F_b297_ids := D_b297 (Or.inl (hw _ (List.mem_of_getElem? (i := 12) rfl))) (ty := (.array .long)) (by decide)
            have F_b297_ordinals := D_b297 (Or.inl (hw _ (List.mem_of_getElem? (i := 15) rfl))) (ty := (.array .int)) (by decide)
            have F_b297_firstSeconds := D_b297 (Or.inl (hw _ (List.mem_of_getElem? (i := 17) rfl))) (ty := (.array .long)) (by decide)
            have F_b297_firstNanos := D_b297 (Or.inl (hw _ (List.mem_of_getElem? (i := 19) rfl))) (ty := (.array .int)) (by decide)
            have F_b297_lastSeconds := D_b297 (Or.inl (hw _ (List.mem_of_getElem? (i := 21) rfl))) (ty := (.array .long)) (by decide)
            have F_b297_lastNanos := D_b297 (Or.inl (hw _ (List.mem_of_getElem? (i := 23) rfl))) (ty := (.array .int)) (by decide)
            have F_b297_records := D_b297 (Or.inl (hw _ (List.mem_of_getElem? (i := 25) rfl))) (ty := (.array .long)) (by decide)
            have F_b297_entities := D_b297 (Or.inl (hw _ (List.mem_of_getElem? (i := 27) rfl))) (ty := (.array .int)) (by decide)
            have F_b297_others := D_b297 (Or.inl (hw _ (List.mem_of_getElem? (i := 31) rfl))) (ty := (.array (.array .int))) (by decide)
            have F_b297_otherCounts := D_b297 (Or.inl (hw _ (List.mem_of_getElem? (i := 33) rfl))) (ty := (.array .int)) (by decide)
            have F_b297_earlier := D_b297 (Or.inl (hw _ (List.mem_of_getElem? (i := 35) rfl))) (ty := (.array .int)) (by decide)
            have F_b297_later := D_b297 (Or.inl (hw _ (List.mem_of_getElem? (i := 37) rfl))) (ty := (.array .int)) (by decide)
            have F_b297_unused := D_b297 (Or.inl (hw _ (List.mem_of_getElem? (i := 39) rfl))) (ty := .int) (by decide)
            have F_b297_used := D_b297 (Or.inl (hw _ (List.mem_of_getElem? (i := 41) rfl))) (ty := .int) (by decide)
            refine dup P at_87 rfl (n := 88) rfl ?_
            refine callN P at_88 (a := b297) (argsL := []) (rest := [(.ref b297)]) (c_new l Z a0 hw b297 h298 n0 P.low E_b297 F_b297_unused F_b297_used F_b297_ids F_b297_ordinals F_b297_firstSeconds F_b297_firstNanos F_b297_lastSeconds F_b297_lastNanos F_b297_records F_b297_entities F_b297_others F_b297_otherCounts F_b297_earlier F_b297_later lo_b297) rfl (hw _ (List.mem_of_getElem? (i := 4) rfl)) (hw _ (List.mem_of_getElem? (i := 5) rfl)) (hw _ (List.mem_of_getElem? (i := 3) rfl)) (hw _ (List.mem_of_getElem? (i := 6) rfl)) (by decide) pd_1 rfl rfl rfl ⟨by decide, Nat.le_of_ble_eq_true rfl, by decide, by decide⟩ (n := 91) rfl ?_
            rintro T h301 v P ⟨rfl, O302⟩
            show Jvm.Own.Ends p e below s room_1 n0 (fun v _ => v = some (.int 1)) T (mkF m 91 #[.val (.int u), .val (.int w), .val (.int (2 : Int32)), .val (.int (1 : Int32)), .val (.int (2 : Int32)), .val (.int (1 : Int32)), .val (.int (0 : Int32)), .val (.int (3 : Int32)), .val (.int (2 : Int32)), .val (.int (1 : Int32)), .val (.int (1 : Int32)), .val (.int (2 : Int32)), .unset, .unset, .unset, .unset] [(.ref b297)])
            rw [own_tab0] at O302
            replace O302 : own_OS Z n0 h301 b297 (0 : Int32) (1 : Int32) (own_tab [0, 0, 0, 0, 0, 0]) (own_tab [0, 0, 0, 0, 0, 0]) := O302
            refine astore P at_91 rfl (l' := #[.val (.int u), .val (.int w), .val (.int (2 : Int32)), .val (.int (1 : Int32)), .val (.int (2 : Int32)), .val (.int (1 : Int32)), .val (.int (0 : Int32)), .val (.int (3 : Int32)), .val (.int (2 : Int32)), .val (.int (1 : Int32)), .val (.int (1 : Int32)), .val (.int (2 : Int32)), .val (.ref b297), .unset, .unset, .unset]) rfl (n := 93) rfl ?_
            refine aload P at_93 rfl rfl (n := 95) rfl ?_
            refine ldc2J P at_95 (hw _ (List.mem_of_getElem? (i := 42) rfl)) (n := 98) rfl ?_
            refine iconst P at_98 (x := (1 : Int32)) rfl (n := 99) rfl ?_
            refine lconst P at_99 (x := (0 : Int64)) rfl (n := 100) rfl ?_
            refine iconst P at_100 (x := (0 : Int32)) rfl (n := 101) rfl ?_
            refine iconst P at_101 (x := (1 : Int32)) rfl (n := 102) rfl ?_
            refine callV P at_102 (a := b297) (argsL := [(.long (10 : Int64)), (.int (1 : Int32)), (.long (0 : Int64)), (.int (0 : Int32)), (.int (1 : Int32))]) (rest := []) (c_open l Z a0 hw b297 (10 : Int64) (1 : Int32) (0 : Int64) (0 : Int32) (1 : Int32) (0 : Int32) (1 : Int32) (own_tab [0, 0, 0, 0, 0, 0]) (own_tab [0, 0, 0, 0, 0, 0]) h301 n0 P.low O302 (by decide) (by decide) (by decide)) (own_OS_exa O302) (hw _ (List.mem_of_getElem? (i := 43) rfl)) (hw _ (List.mem_of_getElem? (i := 44) rfl)) (notFace_of_selects (args := #[]) (mvT P.hZ (hw _ (List.mem_of_getElem? (i := 46) rfl)))) (hw _ (List.mem_of_getElem? (i := 46) rfl)) (hw _ (List.mem_of_getElem? (i := 45) rfl)) (hw _ (List.mem_of_getElem? (i := 3) rfl)) (hw _ (List.mem_of_getElem? (i := 47) rfl)) (by decide) pd_2 rfl rfl rfl ⟨by decide, Nat.le_of_ble_eq_true rfl, by decide, by decide⟩ (n := 105) rfl ?_
            rintro T h303 v P hq
            obtain ⟨rfl, O304⟩ := hq.1 (by decide)
            show Jvm.Own.Ends p e below s room_1 n0 (fun v _ => v = some (.int 1)) T (mkF m 105 #[.val (.int u), .val (.int w), .val (.int (2 : Int32)), .val (.int (1 : Int32)), .val (.int (2 : Int32)), .val (.int (1 : Int32)), .val (.int (0 : Int32)), .val (.int (3 : Int32)), .val (.int (2 : Int32)), .val (.int (1 : Int32)), .val (.int (1 : Int32)), .val (.int (2 : Int32)), .val (.ref b297), .unset, .unset, .unset] [(.int (1 : Int32))])
            have t305 : (ovr (ovr (own_tab [0, 0, 0, 0, 0, 0]) (1 : Int32).toInt.toNat ((own_tab [0, 0, 0, 0, 0, 0]) 0)) 0 (1 : Int32)) = own_tab [1, 0, 0, 0, 0, 0] := by rw [own_tab_set [0, 0, 0, 0, 0, 0] (1 : Int32).toInt.toNat ((own_tab [0, 0, 0, 0, 0, 0]) 0) (by decide), own_tab_set ([0, 0, 0, 0, 0, 0].set (1 : Int32).toInt.toNat ((own_tab [0, 0, 0, 0, 0, 0]) 0)) 0 (1 : Int32) (by decide)]; rfl
            rw [t305] at O304
            have t306 : (ovr (ovr (own_tab [0, 0, 0, 0, 0, 0]) (1 : Int32).toInt.toNat 0) ((own_tab [0, 0, 0, 0, 0, 0]) 0).toInt.toNat (1 : Int32)) = own_tab [1, 0, 0, 0, 0, 0] := by rw [own_tab_set [0, 0, 0, 0, 0, 0] (1 : Int32).toInt.toNat 0 (by decide), own_tab_set ([0, 0, 0, 0, 0, 0].set (1 : Int32).toInt.toNat 0) ((own_tab [0, 0, 0, 0, 0, 0]) 0).toInt.toNat (1 : Int32) (by decide)]; rfl
            rw [t306] at O304
            replace O304 : own_OS Z n0 h303 b297 (0 : Int32) (2 : Int32) (own_tab [1, 0, 0, 0, 0, 0]) (own_tab [1, 0, 0, 0, 0, 0]) := O304
            refine istore P at_105 (l' := #[.val (.int u), .val (.int w), .val (.int (2 : Int32)), .val (.int (1 : Int32)), .val (.int (2 : Int32)), .val (.int (1 : Int32)), .val (.int (0 : Int32)), .val (.int (3 : Int32)), .val (.int (2 : Int32)), .val (.int (1 : Int32)), .val (.int (1 : Int32)), .val (.int (2 : Int32)), .val (.ref b297), .val (.int (1 : Int32)), .unset, .unset]) rfl (n := 107) rfl ?_
            refine aload P at_107 rfl rfl (n := 109) rfl ?_
            refine ldc2J P at_109 (hw _ (List.mem_of_getElem? (i := 52) rfl)) (n := 112) rfl ?_
            refine iconst P at_112 (x := (1 : Int32)) rfl (n := 113) rfl ?_
            refine lconst P at_113 (x := (1 : Int64)) rfl (n := 114) rfl ?_
            refine iconst P at_114 (x := (0 : Int32)) rfl (n := 115) rfl ?_
            refine iconst P at_115 (x := (2 : Int32)) rfl (n := 116) rfl ?_
            refine callV P at_116 (a := b297) (argsL := [(.long (20 : Int64)), (.int (1 : Int32)), (.long (1 : Int64)), (.int (0 : Int32)), (.int (2 : Int32))]) (rest := []) (c_open l Z a0 hw b297 (20 : Int64) (1 : Int32) (1 : Int64) (0 : Int32) (2 : Int32) (0 : Int32) (2 : Int32) (own_tab [1, 0, 0, 0, 0, 0]) (own_tab [1, 0, 0, 0, 0, 0]) h303 n0 P.low O304 (by decide) (by decide) (by decide)) (own_OS_exa O304) (hw _ (List.mem_of_getElem? (i := 43) rfl)) (hw _ (List.mem_of_getElem? (i := 44) rfl)) (notFace_of_selects (args := #[]) (mvT P.hZ (hw _ (List.mem_of_getElem? (i := 46) rfl)))) (hw _ (List.mem_of_getElem? (i := 46) rfl)) (hw _ (List.mem_of_getElem? (i := 45) rfl)) (hw _ (List.mem_of_getElem? (i := 3) rfl)) (hw _ (List.mem_of_getElem? (i := 47) rfl)) (by decide) pd_2 rfl rfl rfl ⟨by decide, Nat.le_of_ble_eq_true rfl, by decide, by decide⟩ (n := 119) rfl ?_
            rintro T h307 v P hq
            obtain ⟨rfl, O308⟩ := hq.1 (by decide)
            show Jvm.Own.Ends p e below s room_1 n0 (fun v _ => v = some (.int 1)) T (mkF m 119 #[.val (.int u), .val (.int w), .val (.int (2 : Int32)), .val (.int (1 : Int32)), .val (.int (2 : Int32)), .val (.int (1 : Int32)), .val (.int (0 : Int32)), .val (.int (3 : Int32)), .val (.int (2 : Int32)), .val (.int (1 : Int32)), .val (.int (1 : Int32)), .val (.int (2 : Int32)), .val (.ref b297), .val (.int (1 : Int32)), .unset, .unset] [(.int (2 : Int32))])
            have t309 : (ovr (ovr (own_tab [1, 0, 0, 0, 0, 0]) (2 : Int32).toInt.toNat ((own_tab [1, 0, 0, 0, 0, 0]) 0)) 0 (2 : Int32)) = own_tab [2, 0, 1, 0, 0, 0] := by rw [own_tab_set [1, 0, 0, 0, 0, 0] (2 : Int32).toInt.toNat ((own_tab [1, 0, 0, 0, 0, 0]) 0) (by decide), own_tab_set ([1, 0, 0, 0, 0, 0].set (2 : Int32).toInt.toNat ((own_tab [1, 0, 0, 0, 0, 0]) 0)) 0 (2 : Int32) (by decide)]; rfl
            rw [t309] at O308
            have t310 : (ovr (ovr (own_tab [1, 0, 0, 0, 0, 0]) (2 : Int32).toInt.toNat 0) ((own_tab [1, 0, 0, 0, 0, 0]) 0).toInt.toNat (2 : Int32)) = own_tab [1, 2, 0, 0, 0, 0] := by rw [own_tab_set [1, 0, 0, 0, 0, 0] (2 : Int32).toInt.toNat 0 (by decide), own_tab_set ([1, 0, 0, 0, 0, 0].set (2 : Int32).toInt.toNat 0) ((own_tab [1, 0, 0, 0, 0, 0]) 0).toInt.toNat (2 : Int32) (by decide)]; rfl
            rw [t310] at O308
            replace O308 : own_OS Z n0 h307 b297 (0 : Int32) (3 : Int32) (own_tab [2, 0, 1, 0, 0, 0]) (own_tab [1, 2, 0, 0, 0, 0]) := O308
            refine istore P at_119 (l' := #[.val (.int u), .val (.int w), .val (.int (2 : Int32)), .val (.int (1 : Int32)), .val (.int (2 : Int32)), .val (.int (1 : Int32)), .val (.int (0 : Int32)), .val (.int (3 : Int32)), .val (.int (2 : Int32)), .val (.int (1 : Int32)), .val (.int (1 : Int32)), .val (.int (2 : Int32)), .val (.ref b297), .val (.int (1 : Int32)), .val (.int (2 : Int32)), .unset]) rfl (n := 121) rfl ?_
            refine aload P at_121 rfl rfl (n := 123) rfl ?_
            refine ldc2J P at_123 (hw _ (List.mem_of_getElem? (i := 53) rfl)) (n := 126) rfl ?_
            refine iconst P at_126 (x := (1 : Int32)) rfl (n := 127) rfl ?_
            refine ldc2J P at_127 (hw _ (List.mem_of_getElem? (i := 54) rfl)) (n := 130) rfl ?_
            refine iconst P at_130 (x := (0 : Int32)) rfl (n := 131) rfl ?_
            refine iconst P at_131 (x := (3 : Int32)) rfl (n := 132) rfl ?_
            refine callV P at_132 (a := b297) (argsL := [(.long (30 : Int64)), (.int (1 : Int32)), (.long (2 : Int64)), (.int (0 : Int32)), (.int (3 : Int32))]) (rest := []) (c_open l Z a0 hw b297 (30 : Int64) (1 : Int32) (2 : Int64) (0 : Int32) (3 : Int32) (0 : Int32) (3 : Int32) (own_tab [2, 0, 1, 0, 0, 0]) (own_tab [1, 2, 0, 0, 0, 0]) h307 n0 P.low O308 (by decide) (by decide) (by decide)) (own_OS_exa O308) (hw _ (List.mem_of_getElem? (i := 43) rfl)) (hw _ (List.mem_of_getElem? (i := 44) rfl)) (notFace_of_selects (args := #[]) (mvT P.hZ (hw _ (List.mem_of_getElem? (i := 46) rfl)))) (hw _ (List.mem_of_getElem? (i := 46) rfl)) (hw _ (List.mem_of_getElem? (i := 45) rfl)) (hw _ (List.mem_of_getElem? (i := 3) rfl)) (hw _ (List.mem_of_getElem? (i := 47) rfl)) (by decide) pd_2 rfl rfl rfl ⟨by decide, Nat.le_of_ble_eq_true rfl, by decide, by decide⟩ (n := 135) rfl ?_
            rintro T h311 v P hq
            obtain ⟨rfl, O312⟩ := hq.1 (by decide)
            show Jvm.Own.Ends p e below s room_1 n0 (fun v _ => v = some (.int 1)) T (mkF m 135 #[.val (.int u), .val (.int w), .val (.int (2 : Int32)), .val (.int (1 : Int32)), .val (.int (2 : Int32)), .val (.int (1 : Int32)), .val (.int (0 : Int32)), .val (.int (3 : Int32)), .val (.int (2 : Int32)), .val (.int (1 : Int32)), .val (.int (1 : Int32)), .val (.int (2 : Int32)), .val (.ref b297), .val (.int (1 : Int32)), .val (.int (2 : Int32)), .unset] [(.int (3 : Int32))])
            have t313 : (ovr (ovr (own_tab [2, 0, 1, 0, 0, 0]) (3 : Int32).toInt.toNat ((own_tab [2, 0, 1, 0, 0, 0]) 0)) 0 (3 : Int32)) = own_tab [3, 0, 1, 2, 0, 0] := by rw [own_tab_set [2, 0, 1, 0, 0, 0] (3 : Int32).toInt.toNat ((own_tab [2, 0, 1, 0, 0, 0]) 0) (by decide), own_tab_set ([2, 0, 1, 0, 0, 0].set (3 : Int32).toInt.toNat ((own_tab [2, 0, 1, 0, 0, 0]) 0)) 0 (3 : Int32) (by decide)]; rfl
            rw [t313] at O312
            have t314 : (ovr (ovr (own_tab [1, 2, 0, 0, 0, 0]) (3 : Int32).toInt.toNat 0) ((own_tab [2, 0, 1, 0, 0, 0]) 0).toInt.toNat (3 : Int32)) = own_tab [1, 2, 3, 0, 0, 0] := by rw [own_tab_set [1, 2, 0, 0, 0, 0] (3 : Int32).toInt.toNat 0 (by decide), own_tab_set ([1, 2, 0, 0, 0, 0].set (3 : Int32).toInt.toNat 0) ((own_tab [2, 0, 1, 0, 0, 0]) 0).toInt.toNat (3 : Int32) (by decide)]; rfl
            rw [t314] at O312
            replace O312 : own_OS Z n0 h311 b297 (0 : Int32) (4 : Int32) (own_tab [3, 0, 1, 2, 0, 0]) (own_tab [1, 2, 3, 0, 0, 0]) := O312
            refine istore P at_135 (l' := #[.val (.int u), .val (.int w), .val (.int (2 : Int32)), .val (.int (1 : Int32)), .val (.int (2 : Int32)), .val (.int (1 : Int32)), .val (.int (0 : Int32)), .val (.int (3 : Int32)), .val (.int (2 : Int32)), .val (.int (1 : Int32)), .val (.int (1 : Int32)), .val (.int (2 : Int32)), .val (.ref b297), .val (.int (1 : Int32)), .val (.int (2 : Int32)), .val (.int (3 : Int32))]) rfl (n := 137) rfl ?_
            refine iload P at_137 rfl (n := 139) rfl ?_
            refine iconst P at_139 (x := (1 : Int32)) rfl (n := 140) rfl ?_
            refine icmp_ne P at_140 (n' := 155) (n := 143) (by decide) rfl (fun hc140 => ?_) (fun hc140 => ?_)
            · -- pc 140 taken
              replace hc140 : ¬ (1 : Int) = (1 : Int) := hc140
              exact absurd hc140 (by decide)
            · -- pc 140 not taken
              replace hc140 : (1 : Int) = (1 : Int) := hc140
              refine iload P at_143 rfl (n := 145) rfl ?_
              refine iconst P at_145 (x := (2 : Int32)) rfl (n := 146) rfl ?_
              refine icmp_ne P at_146 (n' := 155) (n := 149) (by decide) rfl (fun hc146 => ?_) (fun hc146 => ?_)
              · -- pc 146 taken
                replace hc146 : ¬ (2 : Int) = (2 : Int) := hc146
                exact absurd hc146 (by decide)
              · -- pc 146 not taken
                replace hc146 : (2 : Int) = (2 : Int) := hc146
                refine iload P at_149 rfl (n := 151) rfl ?_
                refine iconst P at_151 (x := (3 : Int32)) rfl (n := 152) rfl ?_
                refine icmp_eq P at_152 (n' := 157) (n := 155) (by decide) rfl (fun hc152 => ?_) (fun hc152 => ?_)
                · -- pc 152 taken
                  replace hc152 : (3 : Int) = (3 : Int) := hc152
                  refine aload P at_157 rfl rfl (n := 159) rfl ?_
                  refine iload P at_159 rfl (n := 161) rfl ?_
                  refine callV P at_161 (a := b297) (argsL := [(.int (3 : Int32))]) (rest := []) (c_end l Z a0 hw b297 (3 : Int32) (0 : Int32) (4 : Int32) (own_tab [3, 0, 1, 2, 0, 0]) (own_tab [1, 2, 3, 0, 0, 0]) h311 n0 P.low O312 (by decide) (by decide) (by decide) (by decide)) (own_OS_exa O312) (hw _ (List.mem_of_getElem? (i := 55) rfl)) (hw _ (List.mem_of_getElem? (i := 56) rfl)) (notFace_of_selects (args := #[]) (mvT P.hZ (hw _ (List.mem_of_getElem? (i := 58) rfl)))) (hw _ (List.mem_of_getElem? (i := 58) rfl)) (hw _ (List.mem_of_getElem? (i := 57) rfl)) (hw _ (List.mem_of_getElem? (i := 3) rfl)) (hw _ (List.mem_of_getElem? (i := 59) rfl)) (by decide) pd_0 rfl rfl rfl ⟨by decide, Nat.le_of_ble_eq_true rfl, by decide, by decide⟩ (n := 164) rfl ?_
                  rintro T h315 v P ⟨rfl, O316⟩
                  show Jvm.Own.Ends p e below s room_1 n0 (fun v _ => v = some (.int 1)) T (mkF m 164 #[.val (.int u), .val (.int w), .val (.int (2 : Int32)), .val (.int (1 : Int32)), .val (.int (2 : Int32)), .val (.int (1 : Int32)), .val (.int (0 : Int32)), .val (.int (3 : Int32)), .val (.int (2 : Int32)), .val (.int (1 : Int32)), .val (.int (1 : Int32)), .val (.int (2 : Int32)), .val (.ref b297), .val (.int (1 : Int32)), .val (.int (2 : Int32)), .val (.int (3 : Int32))] [])
                  have t317 : (ovr (own_tab [1, 2, 3, 0, 0, 0]) ((own_tab [3, 0, 1, 2, 0, 0]) (3 : Int32).toInt.toNat).toInt.toNat ((own_tab [1, 2, 3, 0, 0, 0]) (3 : Int32).toInt.toNat)) = own_tab [1, 2, 0, 0, 0, 0] := by rw [own_tab_set [1, 2, 3, 0, 0, 0] ((own_tab [3, 0, 1, 2, 0, 0]) (3 : Int32).toInt.toNat).toInt.toNat ((own_tab [1, 2, 3, 0, 0, 0]) (3 : Int32).toInt.toNat) (by decide)]; rfl
                  rw [t317] at O316
                  have t318 : (ovr (own_tab [1, 2, 0, 0, 0, 0]) (3 : Int32).toInt.toNat (0 : Int32)) = own_tab [1, 2, 0, 0, 0, 0] := by rw [own_tab_set [1, 2, 0, 0, 0, 0] (3 : Int32).toInt.toNat (0 : Int32) (by decide)]; rfl
                  rw [t318] at O316
                  have t319 : (ovr (own_tab [3, 0, 1, 2, 0, 0]) ((own_tab [1, 2, 0, 0, 0, 0]) (3 : Int32).toInt.toNat).toInt.toNat ((own_tab [3, 0, 1, 2, 0, 0]) (3 : Int32).toInt.toNat)) = own_tab [2, 0, 1, 2, 0, 0] := by rw [own_tab_set [3, 0, 1, 2, 0, 0] ((own_tab [1, 2, 0, 0, 0, 0]) (3 : Int32).toInt.toNat).toInt.toNat ((own_tab [3, 0, 1, 2, 0, 0]) (3 : Int32).toInt.toNat) (by decide)]; rfl
                  rw [t319] at O316
                  replace O316 : own_OS Z n0 h315 b297 (3 : Int32) (4 : Int32) (own_tab [2, 0, 1, 2, 0, 0]) (own_tab [1, 2, 0, 0, 0, 0]) := O316
                  refine iloadN P at_164 rfl (n := 165) rfl ?_
                  refine if0_ne P at_165 (n' := 253) (n := 168) (by decide) rfl (fun hc165 => ?_) (fun hc165 => ?_)
                  · -- pc 165 taken
                    replace hc165 : ¬ (1 : Int) = (0 : Int) := hc165
                    refine aload P at_253 rfl rfl (n := 255) rfl ?_
                    refine iload P at_255 rfl (n := 257) rfl ?_
                    refine callV P at_257 (a := b297) (argsL := [(.int (2 : Int32))]) (rest := []) (c_end l Z a0 hw b297 (2 : Int32) (3 : Int32) (4 : Int32) (own_tab [2, 0, 1, 2, 0, 0]) (own_tab [1, 2, 0, 0, 0, 0]) h315 n0 P.low O316 (by decide) (by decide) (by decide) (by decide)) (own_OS_exa O316) (hw _ (List.mem_of_getElem? (i := 55) rfl)) (hw _ (List.mem_of_getElem? (i := 56) rfl)) (notFace_of_selects (args := #[]) (mvT P.hZ (hw _ (List.mem_of_getElem? (i := 58) rfl)))) (hw _ (List.mem_of_getElem? (i := 58) rfl)) (hw _ (List.mem_of_getElem? (i := 57) rfl)) (hw _ (List.mem_of_getElem? (i := 3) rfl)) (hw _ (List.mem_of_getElem? (i := 59) rfl)) (by decide) pd_0 rfl rfl rfl ⟨by decide, Nat.le_of_ble_eq_true rfl, by decide, by decide⟩ (n := 260) rfl ?_
                    rintro T h320 v P ⟨rfl, O321⟩
                    show Jvm.Own.Ends p e below s room_1 n0 (fun v _ => v = some (.int 1)) T (mkF m 260 #[.val (.int u), .val (.int w), .val (.int (2 : Int32)), .val (.int (1 : Int32)), .val (.int (2 : Int32)), .val (.int (1 : Int32)), .val (.int (0 : Int32)), .val (.int (3 : Int32)), .val (.int (2 : Int32)), .val (.int (1 : Int32)), .val (.int (1 : Int32)), .val (.int (2 : Int32)), .val (.ref b297), .val (.int (1 : Int32)), .val (.int (2 : Int32)), .val (.int (3 : Int32))] [])
                    have t322 : (ovr (own_tab [1, 2, 0, 0, 0, 0]) ((own_tab [2, 0, 1, 2, 0, 0]) (2 : Int32).toInt.toNat).toInt.toNat ((own_tab [1, 2, 0, 0, 0, 0]) (2 : Int32).toInt.toNat)) = own_tab [1, 0, 0, 0, 0, 0] := by rw [own_tab_set [1, 2, 0, 0, 0, 0] ((own_tab [2, 0, 1, 2, 0, 0]) (2 : Int32).toInt.toNat).toInt.toNat ((own_tab [1, 2, 0, 0, 0, 0]) (2 : Int32).toInt.toNat) (by decide)]; rfl
                    rw [t322] at O321
                    have t323 : (ovr (own_tab [1, 0, 0, 0, 0, 0]) (2 : Int32).toInt.toNat (3 : Int32)) = own_tab [1, 0, 3, 0, 0, 0] := by rw [own_tab_set [1, 0, 0, 0, 0, 0] (2 : Int32).toInt.toNat (3 : Int32) (by decide)]; rfl
                    rw [t323] at O321
                    have t324 : (ovr (own_tab [2, 0, 1, 2, 0, 0]) ((own_tab [1, 0, 0, 0, 0, 0]) (2 : Int32).toInt.toNat).toInt.toNat ((own_tab [2, 0, 1, 2, 0, 0]) (2 : Int32).toInt.toNat)) = own_tab [1, 0, 1, 2, 0, 0] := by rw [own_tab_set [2, 0, 1, 2, 0, 0] ((own_tab [1, 0, 0, 0, 0, 0]) (2 : Int32).toInt.toNat).toInt.toNat ((own_tab [2, 0, 1, 2, 0, 0]) (2 : Int32).toInt.toNat) (by decide)]; rfl
                    rw [t324] at O321
                    replace O321 : own_OS Z n0 h320 b297 (2 : Int32) (4 : Int32) (own_tab [1, 0, 1, 2, 0, 0]) (own_tab [1, 0, 3, 0, 0, 0]) := O321
                    refine aload P at_260 rfl rfl (n := 262) rfl ?_
                    refine callV P at_262 (a := b297) (argsL := []) (rest := []) (c_first l Z a0 hw b297 (2 : Int32) (4 : Int32) (own_tab [1, 0, 1, 2, 0, 0]) (own_tab [1, 0, 3, 0, 0, 0]) h320 n0 P.low O321) (own_OS_exa O321) (hw _ (List.mem_of_getElem? (i := 64) rfl)) (hw _ (List.mem_of_getElem? (i := 65) rfl)) (notFace_of_selects (args := #[]) (mvT P.hZ (hw _ (List.mem_of_getElem? (i := 67) rfl)))) (hw _ (List.mem_of_getElem? (i := 67) rfl)) (hw _ (List.mem_of_getElem? (i := 66) rfl)) (hw _ (List.mem_of_getElem? (i := 3) rfl)) (hw _ (List.mem_of_getElem? (i := 68) rfl)) (by decide) pd_3 rfl rfl rfl ⟨by decide, Nat.le_of_ble_eq_true rfl, by decide, by decide⟩ (n := 265) rfl (Ret.on ?_)
                    intro T P
                    rw [show (own_tab [1, 0, 3, 0, 0, 0]) 0 = (1 : Int32) from rfl]
                    refine iload P at_265 rfl (n := 267) rfl ?_
                    refine icmp_eq P at_267 (n' := 272) (n := 270) (by decide) rfl (fun hc267 => ?_) (fun hc267 => ?_)
                    · -- pc 267 taken
                      replace hc267 : (1 : Int) = (1 : Int) := hc267
                      refine aload P at_272 rfl rfl (n := 274) rfl ?_
                      refine iload P at_274 rfl (n := 276) rfl ?_
                      refine callV P at_276 (a := b297) (argsL := [(.int (1 : Int32))]) (rest := []) (c_after l Z a0 hw b297 (1 : Int32) (2 : Int32) (4 : Int32) (own_tab [1, 0, 1, 2, 0, 0]) (own_tab [1, 0, 3, 0, 0, 0]) h320 n0 P.low O321 (by decide)) (own_OS_exa O321) (hw _ (List.mem_of_getElem? (i := 69) rfl)) (hw _ (List.mem_of_getElem? (i := 70) rfl)) (notFace_of_selects (args := #[]) (mvT P.hZ (hw _ (List.mem_of_getElem? (i := 72) rfl)))) (hw _ (List.mem_of_getElem? (i := 72) rfl)) (hw _ (List.mem_of_getElem? (i := 71) rfl)) (hw _ (List.mem_of_getElem? (i := 3) rfl)) (hw _ (List.mem_of_getElem? (i := 73) rfl)) (by decide) pd_4 rfl rfl rfl ⟨by decide, Nat.le_of_ble_eq_true rfl, by decide, by decide⟩ (n := 279) rfl (Ret.on ?_)
                      intro T P
                      rw [show (own_tab [1, 0, 3, 0, 0, 0]) (1 : Int32).toInt.toNat = (0 : Int32) from rfl]
                      refine if0_eq P at_279 (n' := 284) (n := 282) (by decide) rfl (fun hc279 => ?_) (fun hc279 => ?_)
                      · -- pc 279 taken
                        replace hc279 : (0 : Int) = (0 : Int) := hc279
                        refine aload P at_284 rfl rfl (n := 286) rfl ?_
                        refine ldc2J P at_286 (hw _ (List.mem_of_getElem? (i := 74) rfl)) (n := 289) rfl ?_
                        refine iconst P at_289 (x := (1 : Int32)) rfl (n := 290) rfl ?_
                        refine ldc2J P at_290 (hw _ (List.mem_of_getElem? (i := 75) rfl)) (n := 293) rfl ?_
                        refine iconst P at_293 (x := (0 : Int32)) rfl (n := 294) rfl ?_
                        refine iconst P at_294 (x := (4 : Int32)) rfl (n := 295) rfl ?_
                        refine callV P at_295 (a := b297) (argsL := [(.long (40 : Int64)), (.int (1 : Int32)), (.long (3 : Int64)), (.int (0 : Int32)), (.int (4 : Int32))]) (rest := []) (c_open l Z a0 hw b297 (40 : Int64) (1 : Int32) (3 : Int64) (0 : Int32) (4 : Int32) (2 : Int32) (4 : Int32) (own_tab [1, 0, 1, 2, 0, 0]) (own_tab [1, 0, 3, 0, 0, 0]) h320 n0 P.low O321 (by decide) (by decide) (by decide)) (own_OS_exa O321) (hw _ (List.mem_of_getElem? (i := 43) rfl)) (hw _ (List.mem_of_getElem? (i := 44) rfl)) (notFace_of_selects (args := #[]) (mvT P.hZ (hw _ (List.mem_of_getElem? (i := 46) rfl)))) (hw _ (List.mem_of_getElem? (i := 46) rfl)) (hw _ (List.mem_of_getElem? (i := 45) rfl)) (hw _ (List.mem_of_getElem? (i := 3) rfl)) (hw _ (List.mem_of_getElem? (i := 47) rfl)) (by decide) pd_2 rfl rfl rfl ⟨by decide, Nat.le_of_ble_eq_true rfl, by decide, by decide⟩ (n := 298) rfl ?_
                        rintro T h325 v P hq
                        obtain ⟨rfl, O326⟩ := hq.2 (by decide)
                        show Jvm.Own.Ends p e below s room_1 n0 (fun v _ => v = some (.int 1)) T (mkF m 298 #[.val (.int u), .val (.int w), .val (.int (2 : Int32)), .val (.int (1 : Int32)), .val (.int (2 : Int32)), .val (.int (1 : Int32)), .val (.int (0 : Int32)), .val (.int (3 : Int32)), .val (.int (2 : Int32)), .val (.int (1 : Int32)), .val (.int (1 : Int32)), .val (.int (2 : Int32)), .val (.ref b297), .val (.int (1 : Int32)), .val (.int (2 : Int32)), .val (.int (3 : Int32))] [(.int (2 : Int32))])
                        have t327 : (ovr (ovr (own_tab [1, 0, 1, 2, 0, 0]) (2 : Int32).toInt.toNat ((own_tab [1, 0, 1, 2, 0, 0]) 0)) 0 (2 : Int32)) = own_tab [2, 0, 1, 2, 0, 0] := by rw [own_tab_set [1, 0, 1, 2, 0, 0] (2 : Int32).toInt.toNat ((own_tab [1, 0, 1, 2, 0, 0]) 0) (by decide), own_tab_set ([1, 0, 1, 2, 0, 0].set (2 : Int32).toInt.toNat ((own_tab [1, 0, 1, 2, 0, 0]) 0)) 0 (2 : Int32) (by decide)]; rfl
                        rw [t327] at O326
                        have t328 : (ovr (ovr (own_tab [1, 0, 3, 0, 0, 0]) (2 : Int32).toInt.toNat 0) ((own_tab [1, 0, 1, 2, 0, 0]) 0).toInt.toNat (2 : Int32)) = own_tab [1, 2, 0, 0, 0, 0] := by rw [own_tab_set [1, 0, 3, 0, 0, 0] (2 : Int32).toInt.toNat 0 (by decide), own_tab_set ([1, 0, 3, 0, 0, 0].set (2 : Int32).toInt.toNat 0) ((own_tab [1, 0, 1, 2, 0, 0]) 0).toInt.toNat (2 : Int32) (by decide)]; rfl
                        rw [t328] at O326
                        replace O326 : own_OS Z n0 h325 b297 (3 : Int32) (4 : Int32) (own_tab [2, 0, 1, 2, 0, 0]) (own_tab [1, 2, 0, 0, 0, 0]) := O326
                        refine iload P at_298 rfl (n := 300) rfl ?_
                        refine icmp_eq P at_300 (n' := 305) (n := 303) (by decide) rfl (fun hc300 => ?_) (fun hc300 => ?_)
                        · -- pc 300 taken
                          replace hc300 : (2 : Int) = (2 : Int) := hc300
                          refine aload P at_305 rfl rfl (n := 307) rfl ?_
                          refine ldc2J P at_307 (hw _ (List.mem_of_getElem? (i := 76) rfl)) (n := 310) rfl ?_
                          refine iconst P at_310 (x := (1 : Int32)) rfl (n := 311) rfl ?_
                          refine ldc2J P at_311 (hw _ (List.mem_of_getElem? (i := 77) rfl)) (n := 314) rfl ?_
                          refine iconst P at_314 (x := (0 : Int32)) rfl (n := 315) rfl ?_
                          refine iconst P at_315 (x := (5 : Int32)) rfl (n := 316) rfl ?_
                          refine callV P at_316 (a := b297) (argsL := [(.long (50 : Int64)), (.int (1 : Int32)), (.long (4 : Int64)), (.int (0 : Int32)), (.int (5 : Int32))]) (rest := []) (c_open l Z a0 hw b297 (50 : Int64) (1 : Int32) (4 : Int64) (0 : Int32) (5 : Int32) (3 : Int32) (4 : Int32) (own_tab [2, 0, 1, 2, 0, 0]) (own_tab [1, 2, 0, 0, 0, 0]) h325 n0 P.low O326 (by decide) (by decide) (by decide)) (own_OS_exa O326) (hw _ (List.mem_of_getElem? (i := 43) rfl)) (hw _ (List.mem_of_getElem? (i := 44) rfl)) (notFace_of_selects (args := #[]) (mvT P.hZ (hw _ (List.mem_of_getElem? (i := 46) rfl)))) (hw _ (List.mem_of_getElem? (i := 46) rfl)) (hw _ (List.mem_of_getElem? (i := 45) rfl)) (hw _ (List.mem_of_getElem? (i := 3) rfl)) (hw _ (List.mem_of_getElem? (i := 47) rfl)) (by decide) pd_2 rfl rfl rfl ⟨by decide, Nat.le_of_ble_eq_true rfl, by decide, by decide⟩ (n := 319) rfl ?_
                          rintro T h329 v P hq
                          obtain ⟨rfl, O330⟩ := hq.2 (by decide)
                          show Jvm.Own.Ends p e below s room_1 n0 (fun v _ => v = some (.int 1)) T (mkF m 319 #[.val (.int u), .val (.int w), .val (.int (2 : Int32)), .val (.int (1 : Int32)), .val (.int (2 : Int32)), .val (.int (1 : Int32)), .val (.int (0 : Int32)), .val (.int (3 : Int32)), .val (.int (2 : Int32)), .val (.int (1 : Int32)), .val (.int (1 : Int32)), .val (.int (2 : Int32)), .val (.ref b297), .val (.int (1 : Int32)), .val (.int (2 : Int32)), .val (.int (3 : Int32))] [(.int (3 : Int32))])
                          have t331 : (ovr (ovr (own_tab [2, 0, 1, 2, 0, 0]) (3 : Int32).toInt.toNat ((own_tab [2, 0, 1, 2, 0, 0]) 0)) 0 (3 : Int32)) = own_tab [3, 0, 1, 2, 0, 0] := by rw [own_tab_set [2, 0, 1, 2, 0, 0] (3 : Int32).toInt.toNat ((own_tab [2, 0, 1, 2, 0, 0]) 0) (by decide), own_tab_set ([2, 0, 1, 2, 0, 0].set (3 : Int32).toInt.toNat ((own_tab [2, 0, 1, 2, 0, 0]) 0)) 0 (3 : Int32) (by decide)]; rfl
                          rw [t331] at O330
                          have t332 : (ovr (ovr (own_tab [1, 2, 0, 0, 0, 0]) (3 : Int32).toInt.toNat 0) ((own_tab [2, 0, 1, 2, 0, 0]) 0).toInt.toNat (3 : Int32)) = own_tab [1, 2, 3, 0, 0, 0] := by rw [own_tab_set [1, 2, 0, 0, 0, 0] (3 : Int32).toInt.toNat 0 (by decide), own_tab_set ([1, 2, 0, 0, 0, 0].set (3 : Int32).toInt.toNat 0) ((own_tab [2, 0, 1, 2, 0, 0]) 0).toInt.toNat (3 : Int32) (by decide)]; rfl
                          rw [t332] at O330
                          replace O330 : own_OS Z n0 h329 b297 (0 : Int32) (4 : Int32) (own_tab [3, 0, 1, 2, 0, 0]) (own_tab [1, 2, 3, 0, 0, 0]) := O330
                          refine iload P at_319 rfl (n := 321) rfl ?_
                          refine icmp_ne P at_321 (n' := 328) (n := 324) (by decide) rfl (fun hc321 => ?_) (fun hc321 => ?_)
                          · -- pc 321 taken
                            replace hc321 : ¬ (3 : Int) = (3 : Int) := hc321
                            exact absurd hc321 (by decide)
                          · -- pc 321 not taken
                            replace hc321 : (3 : Int) = (3 : Int) := hc321
                            refine iconst P at_324 (x := (1 : Int32)) rfl (n := 325) rfl ?_
                            refine goto P at_325 (n := 329) (by decide) ?_
                            refine retZ P at_329 (by decide) (by decide) (by decide) ?_
                            exact rfl
                        · -- pc 300 not taken
                          replace hc300 : ¬ (2 : Int) = (2 : Int) := hc300
                          exact absurd hc300 (by decide)
                      · -- pc 279 not taken
                        replace hc279 : ¬ (0 : Int) = (0 : Int) := hc279
                        exact absurd hc279 (by decide)
                    · -- pc 267 not taken
                      replace hc267 : ¬ (1 : Int) = (1 : Int) := hc267
                      exact absurd hc267 (by decide)
                  · -- pc 165 not taken
                    replace hc165 : (1 : Int) = (0 : Int) := hc165
                    exact absurd hc165 (by decide)
                · -- pc 152 not taken
                  replace hc152 : ¬ (3 : Int) = (3 : Int) := hc152
                  exact absurd hc152 (by decide)
        · -- pc 62 not taken
          replace hc62 : (2 : Int) = (0 : Int) := hc62
          exact absurd hc62 (by decide)
set_option maxRecDepth 65536 in
set_option maxHeartbeats 40000000 in
theorem comes_1 {Post : Tables → Env → Array Value → State → Outcome → State → Prop} (hpost : ∀ tb e args s v u, (limb_1_1.after args s (.returned v) u = true ∧ limb_1_2.after args s (.returned v) u = true ∧ True) → FrameEnd s (.returned v) u (Jvm.fieldLocs frame_1_writes args s ++ Jvm.arrayLocs frame_1_arrays args s ++ Jvm.staticLocs frame_1_statics s) 40 24704 → Post tb e args s (.returned v) u) :
    ArmFor flags0 classFile x code maxLocals ret World_1 tables_1 room_1 Calls_1 rest_1 Pre_1 Post := by
  intro l hfl _ _ p e ha hc hk s m args below hf hA hF happ hP
  obtain ⟨hcalls, hrest, hpre⟩ := hP
  obtain ⟨-, -, -, hnamed, -, -, -, hat⟩ := (Spec.applies_iff hf).mp happ
  obtain ⟨hg, hn⟩ := and_e (Cond.before_iff.mp (show (Jvm.Cond.and given_1 narrow_1).before args s = true from hpre))
  obtain ⟨q0, g0⟩ := and_e hg
  obtain ⟨w0, w1, rfl⟩ : ∃ w0 w1 : Value, args = #[w0, w1] := by
    have hs : args.size = 2 := by simpa [Cond.value, given_1] using q0
    obtain ⟨L⟩ := args
    match L, hs with
    | [w0, w1], _ => exact ⟨w0, w1, rfl⟩
  have hw := fun d (hd : d ∈ tables_1) => atoms_spec (ws := Jvm.Cond.code x code maxLocals ret :: tables_1) hat d (List.mem_cons_of_mem _ hd)
  obtain ⟨q1, g1⟩ := and_e g0
  obtain ⟨i0, e0⟩ := is_v q1
  obtain rfl : w0 = (.int i0) := Option.some.inj e0
  have q2 := g1
  obtain ⟨i1, e1⟩ := is_v q2
  obtain rfl : w1 = (.int i1) := Option.some.inj e1
  obtain ⟨n, o, h1, h2, h3, _, L, rfl, ⟨rfl, N⟩, hq⟩ := rm_law l s _ hw i0 i1 s.heap s.heap.size (Nat.le_refl _)  tables_1 p e ha hc hk s m _ below hf ((Spec.applies_iff_loose hf).mp happ).1 ⟨rfl, State.Warmed39.refl s, rfl⟩ trivial
  refine ⟨n, _, h1, h2, h3, hpost _ _ _ _ _ _ ⟨Cond.after_iff.mpr rfl, Cond.after_iff.mpr (eq_i res_at (Term.int_eval (1)) rfl), trivial⟩ ⟨hq.1, hq.2.1, (hq.2.2.sift fun y hy => Or.inr (N y hy)).mono (by decide) (by decide)⟩⟩
theorem main_1_1 : Claimed_1_1 := comes_1 fun _ _ _ _ _ _ h hF => ⟨h.1, hF⟩
theorem main_1_2 : Claimed_1_2 := comes_1 fun _ _ _ _ _ _ h hF => ⟨h.2.1, hF⟩
end Jvm.Pilot.@@N@@
namespace Jvm.Pilot.@@N@@
open Jvm Jvm.ClassFile Sem Op Lib Jvm.Free Jvm.Stand Jvm.Pilot.@@N@@.Jvm.D
/-! MADE BY PROGRAM (witnessworld.py) out of the Statement's table words and the real class files: 12 classes; the members and pool entries that the words name. The judged class is class 1, her method 1. -/
namespace start1
open Jvm.ClassFile
def u (s : String) : CpInfo := .utf8 (stringToUtf16 s)
/-- a pool by its gaps: so many unusable entries, then the entry; so many at the end -/
def gap : Nat → List CpInfo → List CpInfo
  | 0, r => r
  | n + 1, r => .unusable :: gap n r
def poolList (es : List (Nat × CpInfo)) (last : Nat) : List CpInfo := es.foldr (fun e r => gap e.1 (e.2 :: r)) (gap last [])
def pool (es : List (Nat × CpInfo)) (last : Nat) : Array CpInfo := ⟨poolList es last⟩
def fileOf (pool : Array CpInfo) (this : Nat) (attrs : Array Attribute := #[]) (ms : Array MethodInfo := #[]) (fl : Nat := 33) (sup : Nat := 0) (ifs : Array Nat := #[]) (fds : Array FieldInfo := #[]) : ClassFile where
  minorVersion := 0
  majorVersion := 65
  constantPool := pool
  accessFlags := fl
  thisClass := this
  superClass := sup
  interfaces := ifs
  fields := fds
  methods := ms
  attributes := attrs
def plain (name : String) (sup : Option ClassId) : Class where
  name := name
  kind := .ordinary
  loader := none
  accessFlags := 33
  super := sup
  interfaces := #[]
  cf := none
  fields := #[]
  methods := #[]
  instanceTypes := #[]
  staticTypes := #[]
  resolved := #[]
  callSites := []
  init := .initialized
  statics := none
  mirror := none

def pool0 : Array CpInfo := pool [(5, u "<init>"), (0, u "()V"), (1, .class_ 10), (1, u "java/lang/Object")] 113

def k0c0 : Code := { maxStack := 0, maxLocals := 1, code := object_method_1_code, exceptionTable := #[], attributes := #[] }
def k0m0 : Method := { name := "<init>", desc := "()V", sig := { parameters := [], returnType := none }, accessFlags := 1, code := some k0c0 }
/-- java/lang/Object -/
def k0 : Class := { plain "java/lang/Object" none with
  accessFlags := 33
  interfaces := #[]
  cf := some (fileOf pool0 8 #[] #[{ accessFlags := 1, nameIndex := 5, descriptorIndex := 6, attributes := #[] }] 33 0 #[] #[])
  fields := #[]
  methods := #[k0m0]
  instanceTypes := #[]
  staticTypes := #[]
  resolved := Array.replicate 124 none
  statics := none }

def pool1 : Array CpInfo := pool [(2, .class_ 4), (0, .nameAndType 5 6), (0, u "java/lang/Object"), (0, u "<init>"), (0, u "()V"), (0, .integer 2147483647), (0, .class_ 9), (0, u "com/example/sessionloom/sessionloom/OpenSessions"), (0, .methodref 8 3), (0, .long 10), (1, .methodref 8 14), (0, .nameAndType 15 16), (0, u "open"), (0, u "(JIJII)I"), (0, .long 20), (1, .long 30), (1, .long 2), (1, .methodref 8 24), (0, .nameAndType 25 26), (0, u "end"), (0, u "(I)V"), (0, .methodref 8 28), (0, .nameAndType 29 30), (0, u "first"), (0, u "()I"), (0, .methodref 8 32), (0, .nameAndType 33 34), (0, u "after"), (0, u "(I)I"), (0, .long 40), (1, .long 3), (1, .long 50), (1, .long 4), (1, .class_ 44), (0, u "com/example/sessionloom/sessionloom/OpenSessionsEndPinLaw"), (2, u "law"), (0, u "(II)Z")] 3

def k1m0 : Method := { name := "<init>", desc := "()V", sig := { parameters := [], returnType := none }, accessFlags := 1, code := none }
def k1c1 : Code := { maxStack := 8, maxLocals := 16, code := code, exceptionTable := #[], attributes := #[] }
def k1m1 : Method := { name := "law", desc := "(II)Z", sig := { parameters := [.int, .int], returnType := some .boolean }, accessFlags := 9, code := some k1c1 }
/-- com/example/sessionloom/sessionloom/OpenSessionsEndPinLaw -/
def k1 : Class := { plain "com/example/sessionloom/sessionloom/OpenSessionsEndPinLaw" (some 0) with
  accessFlags := 49
  interfaces := #[]
  cf := some (fileOf pool1 43 #[] #[{ accessFlags := 1, nameIndex := 5, descriptorIndex := 6, attributes := #[] }, { accessFlags := 9, nameIndex := 47, descriptorIndex := 48, attributes := #[] }] 49 2 #[] #[])
  fields := #[]
  methods := #[k1m0, k1m1]
  instanceTypes := #[]
  staticTypes := #[]
  resolved := Array.replicate 52 none
  statics := none }

def pool2 : Array CpInfo := pool [(1, .methodref 2 3), (0, .class_ 4), (0, .nameAndType 5 6), (0, u "java/lang/Object"), (0, u "<init>"), (0, u "()V"), (0, .class_ 8), (0, u "com/example/sessionloom/sessionloom/OpenSessions"), (0, .fieldref 7 10), (0, .nameAndType 11 12), (0, u "ids"), (0, u "[J"), (0, .fieldref 7 14), (0, .nameAndType 15 16), (0, u "ordinals"), (0, u "[I"), (0, .fieldref 7 18), (0, .nameAndType 19 12), (0, u "firstSeconds"), (0, .fieldref 7 21), (0, .nameAndType 22 16), (0, u "firstNanos"), (0, .fieldref 7 24), (0, .nameAndType 25 12), (0, u "lastSeconds"), (0, .fieldref 7 27), (0, .nameAndType 28 16), (0, u "lastNanos"), (0, .fieldref 7 30), (0, .nameAndType 31 12), (0, u "records"), (0, .fieldref 7 33), (0, .nameAndType 34 16), (0, u "entities"), (0, .class_ 16), (0, .fieldref 7 37), (0, .nameAndType 38 39), (0, u "others"), (0, u "[[I"), (0, .fieldref 7 41), (0, .nameAndType 42 16), (0, u "otherCounts"), (0, .fieldref 7 44), (0, .nameAndType 45 16), (0, u "earlier"), (0, .fieldref 7 47), (0, .nameAndType 48 16), (0, u "later"), (0, .fieldref 7 50), (0, .nameAndType 51 52), (0, u "unused"), (0, u "I"), (0, .fieldref 7 54), (0, .nameAndType 55 52), (0, u "used"), (3, .methodref 7 60), (0, .nameAndType 61 62), (0, u "queueLast"), (0, u "(I)V"), (4, .methodref 7 68), (0, .nameAndType 69 62), (0, u "unqueue"), (17, u "NONE"), (2, u "FIRST_CAPACITY"), (3, u "open"), (0, u "(JIJII)I"), (3, u "first"), (0, u "()I"), (0, u "after"), (0, u "(I)I"), (0, u "end")] 9

def k2c0 : Code := { maxStack := 2, maxLocals := 1, code := prog_16_method_1_code, exceptionTable := #[], attributes := #[] }
def k2m0 : Method := { name := "<init>", desc := "()V", sig := { parameters := [], returnType := none }, accessFlags := 0, code := some k2c0 }
def k2c1 : Code := { maxStack := 4, maxLocals := 9, code := prog_16_method_2_code, exceptionTable := #[], attributes := #[] }
def k2m1 : Method := { name := "open", desc := "(JIJII)I", sig := { parameters := [.long, .int, .long, .int, .int], returnType := some .int }, accessFlags := 0, code := some k2c1 }
def k2c2 : Code := { maxStack := 2, maxLocals := 1, code := prog_16_method_4_code, exceptionTable := #[], attributes := #[] }
def k2m2 : Method := { name := "first", desc := "()I", sig := { parameters := [], returnType := some .int }, accessFlags := 0, code := some k2c2 }
def k2c3 : Code := { maxStack := 2, maxLocals := 2, code := prog_16_method_5_code, exceptionTable := #[], attributes := #[] }
def k2m3 : Method := { name := "after", desc := "(I)I", sig := { parameters := [.int], returnType := some .int }, accessFlags := 0, code := some k2c3 }
def k2c4 : Code := { maxStack := 3, maxLocals := 2, code := prog_16_method_6_code, exceptionTable := #[], attributes := #[] }
def k2m4 : Method := { name := "end", desc := "(I)V", sig := { parameters := [.int], returnType := none }, accessFlags := 0, code := some k2c4 }
def k2c5 : Code := { maxStack := 3, maxLocals := 3, code := prog_16_method_17_code, exceptionTable := #[], attributes := #[] }
def k2m5 : Method := { name := "queueLast", desc := "(I)V", sig := { parameters := [.int], returnType := none }, accessFlags := 2, code := some k2c5 }
def k2c6 : Code := { maxStack := 4, maxLocals := 2, code := prog_16_method_18_code, exceptionTable := #[], attributes := #[] }
def k2m6 : Method := { name := "unqueue", desc := "(I)V", sig := { parameters := [.int], returnType := none }, accessFlags := 2, code := some k2c6 }
/-- com/example/sessionloom/sessionloom/OpenSessions -/
def k2 : Class := { plain "com/example/sessionloom/sessionloom/OpenSessions" (some 0) with
  accessFlags := 48
  interfaces := #[]
  cf := some (fileOf pool2 7 #[] #[{ accessFlags := 0, nameIndex := 5, descriptorIndex := 6, attributes := #[] }, { accessFlags := 0, nameIndex := 94, descriptorIndex := 95, attributes := #[] }, { accessFlags := 0, nameIndex := 99, descriptorIndex := 100, attributes := #[] }, { accessFlags := 0, nameIndex := 101, descriptorIndex := 102, attributes := #[] }, { accessFlags := 0, nameIndex := 103, descriptorIndex := 62, attributes := #[] }, { accessFlags := 2, nameIndex := 61, descriptorIndex := 62, attributes := #[] }, { accessFlags := 2, nameIndex := 69, descriptorIndex := 62, attributes := #[] }] 48 2 #[] #[{ accessFlags := 24, nameIndex := 87, descriptorIndex := 52, attributes := #[] }, { accessFlags := 26, nameIndex := 90, descriptorIndex := 52, attributes := #[] }, { accessFlags := 2, nameIndex := 11, descriptorIndex := 12, attributes := #[] }, { accessFlags := 2, nameIndex := 15, descriptorIndex := 16, attributes := #[] }, { accessFlags := 2, nameIndex := 19, descriptorIndex := 12, attributes := #[] }, { accessFlags := 2, nameIndex := 22, descriptorIndex := 16, attributes := #[] }, { accessFlags := 2, nameIndex := 25, descriptorIndex := 12, attributes := #[] }, { accessFlags := 2, nameIndex := 28, descriptorIndex := 16, attributes := #[] }, { accessFlags := 2, nameIndex := 31, descriptorIndex := 12, attributes := #[] }, { accessFlags := 2, nameIndex := 34, descriptorIndex := 16, attributes := #[] }, { accessFlags := 2, nameIndex := 38, descriptorIndex := 39, attributes := #[] }, { accessFlags := 2, nameIndex := 42, descriptorIndex := 16, attributes := #[] }, { accessFlags := 2, nameIndex := 45, descriptorIndex := 16, attributes := #[] }, { accessFlags := 2, nameIndex := 48, descriptorIndex := 16, attributes := #[] }, { accessFlags := 2, nameIndex := 51, descriptorIndex := 52, attributes := #[] }, { accessFlags := 2, nameIndex := 55, descriptorIndex := 52, attributes := #[] }])
  fields := #[{ name := "NONE", type := .int, accessFlags := 24, slot := 0, constantValue := 0 }, { name := "FIRST_CAPACITY", type := .int, accessFlags := 26, slot := 1, constantValue := 0 }, { name := "ids", type := (.array .long), accessFlags := 2, slot := 0, constantValue := 0 }, { name := "ordinals", type := (.array .int), accessFlags := 2, slot := 1, constantValue := 0 }, { name := "firstSeconds", type := (.array .long), accessFlags := 2, slot := 2, constantValue := 0 }, { name := "firstNanos", type := (.array .int), accessFlags := 2, slot := 3, constantValue := 0 }, { name := "lastSeconds", type := (.array .long), accessFlags := 2, slot := 4, constantValue := 0 }, { name := "lastNanos", type := (.array .int), accessFlags := 2, slot := 5, constantValue := 0 }, { name := "records", type := (.array .long), accessFlags := 2, slot := 6, constantValue := 0 }, { name := "entities", type := (.array .int), accessFlags := 2, slot := 7, constantValue := 0 }, { name := "others", type := (.array (.array .int)), accessFlags := 2, slot := 8, constantValue := 0 }, { name := "otherCounts", type := (.array .int), accessFlags := 2, slot := 9, constantValue := 0 }, { name := "earlier", type := (.array .int), accessFlags := 2, slot := 10, constantValue := 0 }, { name := "later", type := (.array .int), accessFlags := 2, slot := 11, constantValue := 0 }, { name := "unused", type := .int, accessFlags := 2, slot := 12, constantValue := 0 }, { name := "used", type := .int, accessFlags := 2, slot := 13, constantValue := 0 }]
  methods := #[k2m0, k2m1, k2m2, k2m3, k2m4, k2m5, k2m6]
  instanceTypes := #[(.array .long), (.array .int), (.array .long), (.array .int), (.array .long), (.array .int), (.array .long), (.array .int), (.array (.array .int)), (.array .int), (.array .int), (.array .int), .int, .int]
  staticTypes := #[.int, .int]
  resolved := Array.replicate 113 none
  statics := none }

def pool3 : Array CpInfo := pool [(1, u "java/lang/Cloneable"), (0, .class_ 1), (0, u "java/lang/Object"), (0, .class_ 3)] 3

/-- java/lang/Cloneable -/
def k3 : Class := { plain "java/lang/Cloneable" (some 0) with
  accessFlags := 1537
  interfaces := #[]
  cf := some (fileOf pool3 2 #[] #[] 1537 4 #[] #[])
  fields := #[]
  methods := #[]
  instanceTypes := #[]
  staticTypes := #[]
  resolved := Array.replicate 8 none
  statics := none }

def pool4 : Array CpInfo := pool [(1, u "java/io/Serializable"), (0, .class_ 1), (0, u "java/lang/Object"), (0, .class_ 3)] 3

/-- java/io/Serializable -/
def k4 : Class := { plain "java/io/Serializable" (some 0) with
  accessFlags := 1537
  interfaces := #[]
  cf := some (fileOf pool4 2 #[] #[] 1537 4 #[] #[])
  fields := #[]
  methods := #[]
  instanceTypes := #[]
  staticTypes := #[]
  resolved := Array.replicate 8 none
  statics := none }

/-- the primitive byte -/
def k5 : Class := { plain "byte" none with kind := .primitive 'B', accessFlags := 0x411 }
/-- [B -/
def k6 : Class := { plain "[B" (some 0) with kind := .array 5 .byte, interfaces := #[3, 4], accessFlags := 1041 }

/-- the primitive int -/
def k7 : Class := { plain "int" none with kind := .primitive 'I', accessFlags := 0x411 }
/-- [I -/
def k8 : Class := { plain "[I" (some 0) with kind := .array 7 .int, interfaces := #[3, 4], accessFlags := 1041 }

/-- the primitive long -/
def k9 : Class := { plain "long" none with kind := .primitive 'J', accessFlags := 0x411 }
/-- [J -/
def k10 : Class := { plain "[J" (some 0) with kind := .array 9 .long, interfaces := #[3, 4], accessFlags := 1041 }

/-- [[I -/
def k11 : Class := { plain "[[I" (some 0) with kind := .array 8 (.array .int), interfaces := #[3, 4], accessFlags := 1041 }

def heap : Heap := #[]
def classes : Array Class := #[k0, k1, k2, k3, k4, k5, k6, k7, k8, k9, k10, k11]
def interned : List (Array UInt16 × Addr) := []
def slotsUsed : Nat := 0
def theMethod : MethodId := ⟨1, 1⟩
def args0 : Array Value := #[.int 5, .int 7]
def aboutOver (below : List Frame) : State where
  vm := { classes := classes, interned := interned.toArray }
  heap := heap
  slotsUsed := slotsUsed
  threads := #[{ frames := .invoking theMethod args0 :: below }]
def below0 : List Frame := [.native { method := ⟨0, 0⟩, args := #[] }]
def about1 : State := aboutOver below0
def p0 : Program := .bare "" "" ""
def e0 : Env := launch0.env 0 0 0
theorem w_frames : about1.frames = Frame.invoking theMethod args0 :: below0 := rfl
set_option maxRecDepth 65536 in
theorem w_args : argsFit about1.vm theMethod args0 = true := by decide +kernel
set_option maxRecDepth 65536 in
theorem w_heap : heapFits about1 = true := by decide +kernel
set_option maxRecDepth 65536 in
theorem w_runnable : about1.curStatus? = some .runnable := by decide +kernel
set_option maxRecDepth 65536 in
theorem w_alone : about1.alone = true := by decide +kernel
set_option maxRecDepth 65536 in
theorem w_named : about1.methodNamed? x = some theMethod := by decide +kernel
set_option maxRecDepth 65536 in
theorem w_hears : about1.hears theMethod below0 = true := by decide +kernel
set_option maxRecDepth 65536 in
theorem w_ripe : about1.ripe theMethod args0 below0 = true := by decide +kernel
theorem w_running : about1.status = .running := rfl
set_option maxRecDepth 65536 in
theorem w_room : about1.hasRoom e0.platform room_1 = true :=
  launch0.hasRoom_least _ room_1 (by decide +kernel) (by decide +kernel) (by decide +kernel) (by decide +kernel) (by decide +kernel) (by decide +kernel)
theorem allAtoms_all (ts : List Jvm.Cond) (a : Array Jvm.Value) (st : Jvm.State) : (allAtoms ts).before a st = ts.all (fun c => c.before a st) := by
  induction ts with
  | nil => rfl
  | cons c t ih =>
    show (Jvm.Cond.and c (allAtoms t)).before a st = _
    rw [Jvm.Cond.before_and, ih, List.all_cons]
def words1 : List Jvm.Cond := Jvm.Cond.code x code maxLocals ret :: tables_1
/-- a 'code' word, met by the world's own term for the bytes: nothing is compared byte by byte -/
theorem code_word {y : MethodName} {bytes : ByteArray} {mx : Nat} {rt : Option FieldType} {a : Array Value} {s : State} {m : MethodId} {meth : Method} {c : Code} (h1 : s.methodNamed? y = some m) (h2 : s.vm.method? m = some meth) (h3 : meth.code = some c) (h4 : c.code = bytes)
    (h5 : (c.maxLocals == mx && c.exceptionTable.isEmpty && decide (c.maxStack ≤ mostOperands) && decide (meth.sig.returnType = rt) && !meth.locks && decide (parseMethodDescriptor y.desc = some meth.sig)) = true) : (Jvm.Cond.code y bytes mx rt).before a s = true := by
  simp only [Bool.and_eq_true, beq_iff_eq, Bool.not_eq_true', decide_eq_true_eq] at h5
  obtain ⟨⟨⟨⟨⟨g1, g2⟩, g3⟩, g4⟩, g5⟩, g6⟩ := h5
  simp [Cond.before, Cond.holds, Cond.value, h1, h2, h3, h4, g1, g2, g3, g4, g5, g6]
def isCode : Jvm.Cond → Bool
  | .code _ _ _ _ => true
  | _ => false
theorem all_split {L : List Jvm.Cond} {P : Jvm.Cond → Bool} (h1 : L.all (fun c => isCode c || P c) = true) (h2 : ∀ c ∈ L.filter isCode, P c = true) : L.all P = true := by
  refine List.all_eq_true.mpr fun c hc => ?_
  have h := List.all_eq_true.mp h1 c hc
  rcases Bool.eq_false_or_eq_true (isCode c) with hi | hi
  · exact h2 c (List.mem_filter.mpr ⟨hc, hi⟩)
  · simpa [hi] using h
set_option maxRecDepth 65536 in
theorem w_c0 : (Jvm.Cond.code x code maxLocals ret).before args0 about1 = true := code_word (m := ⟨1, 1⟩) (meth := k1m1) (c := k1c1) (by decide +kernel) rfl rfl rfl (by decide +kernel)
set_option maxRecDepth 65536 in
theorem w_c1 : (Jvm.Cond.code ({ cls := "com/example/sessionloom/sessionloom/OpenSessions", name := "<init>", desc := "()V" } : Jvm.MethodName) prog_16_method_1_code (1 : Nat) (Option.none : Option Jvm.ClassFile.FieldType)).before args0 about1 = true := code_word (m := ⟨2, 0⟩) (meth := k2m0) (c := k2c0) (by decide +kernel) rfl rfl rfl (by decide +kernel)
set_option maxRecDepth 65536 in
theorem w_c2 : (Jvm.Cond.code ({ cls := "java/lang/Object", name := "<init>", desc := "()V" } : Jvm.MethodName) object_method_1_code (1 : Nat) (Option.none : Option Jvm.ClassFile.FieldType)).before args0 about1 = true := code_word (m := ⟨0, 0⟩) (meth := k0m0) (c := k0c0) (by decide +kernel) rfl rfl rfl (by decide +kernel)
set_option maxRecDepth 65536 in
theorem w_c3 : (Jvm.Cond.code ({ cls := "com/example/sessionloom/sessionloom/OpenSessions", name := "open", desc := "(JIJII)I" } : Jvm.MethodName) prog_16_method_2_code (9 : Nat) (Option.some Jvm.ClassFile.FieldType.int)).before args0 about1 = true := code_word (m := ⟨2, 1⟩) (meth := k2m1) (c := k2c1) (by decide +kernel) rfl rfl rfl (by decide +kernel)
set_option maxRecDepth 65536 in
theorem w_c4 : (Jvm.Cond.code ({ cls := "com/example/sessionloom/sessionloom/OpenSessions", name := "queueLast", desc := "(I)V" } : Jvm.MethodName) prog_16_method_17_code (3 : Nat) (Option.none : Option Jvm.ClassFile.FieldType)).before args0 about1 = true := code_word (m := ⟨2, 5⟩) (meth := k2m5) (c := k2c5) (by decide +kernel) rfl rfl rfl (by decide +kernel)
set_option maxRecDepth 65536 in
theorem w_c5 : (Jvm.Cond.code ({ cls := "com/example/sessionloom/sessionloom/OpenSessions", name := "end", desc := "(I)V" } : Jvm.MethodName) prog_16_method_6_code (2 : Nat) (Option.none : Option Jvm.ClassFile.FieldType)).before args0 about1 = true := code_word (m := ⟨2, 4⟩) (meth := k2m4) (c := k2c4) (by decide +kernel) rfl rfl rfl (by decide +kernel)
set_option maxRecDepth 65536 in
theorem w_c6 : (Jvm.Cond.code ({ cls := "com/example/sessionloom/sessionloom/OpenSessions", name := "unqueue", desc := "(I)V" } : Jvm.MethodName) prog_16_method_18_code (2 : Nat) (Option.none : Option Jvm.ClassFile.FieldType)).before args0 about1 = true := code_word (m := ⟨2, 6⟩) (meth := k2m6) (c := k2c6) (by decide +kernel) rfl rfl rfl (by decide +kernel)
set_option maxRecDepth 65536 in
theorem w_c7 : (Jvm.Cond.code ({ cls := "com/example/sessionloom/sessionloom/OpenSessions", name := "first", desc := "()I" } : Jvm.MethodName) prog_16_method_4_code (1 : Nat) (Option.some Jvm.ClassFile.FieldType.int)).before args0 about1 = true := code_word (m := ⟨2, 2⟩) (meth := k2m2) (c := k2c2) (by decide +kernel) rfl rfl rfl (by decide +kernel)
set_option maxRecDepth 65536 in
theorem w_c8 : (Jvm.Cond.code ({ cls := "com/example/sessionloom/sessionloom/OpenSessions", name := "after", desc := "(I)I" } : Jvm.MethodName) prog_16_method_5_code (2 : Nat) (Option.some Jvm.ClassFile.FieldType.int)).before args0 about1 = true := code_word (m := ⟨2, 3⟩) (meth := k2m3) (c := k2c3) (by decide +kernel) rfl rfl rfl (by decide +kernel)
def codes1 : List Jvm.Cond := [Jvm.Cond.code x code maxLocals ret, Jvm.Cond.code ({ cls := "com/example/sessionloom/sessionloom/OpenSessions", name := "<init>", desc := "()V" } : Jvm.MethodName) prog_16_method_1_code (1 : Nat) (Option.none : Option Jvm.ClassFile.FieldType), Jvm.Cond.code ({ cls := "java/lang/Object", name := "<init>", desc := "()V" } : Jvm.MethodName) object_method_1_code (1 : Nat) (Option.none : Option Jvm.ClassFile.FieldType), Jvm.Cond.code ({ cls := "com/example/sessionloom/sessionloom/OpenSessions", name := "open", desc := "(JIJII)I" } : Jvm.MethodName) prog_16_method_2_code (9 : Nat) (Option.some Jvm.ClassFile.FieldType.int), Jvm.Cond.code ({ cls := "com/example/sessionloom/sessionloom/OpenSessions", name := "queueLast", desc := "(I)V" } : Jvm.MethodName) prog_16_method_17_code (3 : Nat) (Option.none : Option Jvm.ClassFile.FieldType), Jvm.Cond.code ({ cls := "com/example/sessionloom/sessionloom/OpenSessions", name := "end", desc := "(I)V" } : Jvm.MethodName) prog_16_method_6_code (2 : Nat) (Option.none : Option Jvm.ClassFile.FieldType), Jvm.Cond.code ({ cls := "com/example/sessionloom/sessionloom/OpenSessions", name := "unqueue", desc := "(I)V" } : Jvm.MethodName) prog_16_method_18_code (2 : Nat) (Option.none : Option Jvm.ClassFile.FieldType), Jvm.Cond.code ({ cls := "com/example/sessionloom/sessionloom/OpenSessions", name := "first", desc := "()I" } : Jvm.MethodName) prog_16_method_4_code (1 : Nat) (Option.some Jvm.ClassFile.FieldType.int), Jvm.Cond.code ({ cls := "com/example/sessionloom/sessionloom/OpenSessions", name := "after", desc := "(I)I" } : Jvm.MethodName) prog_16_method_5_code (2 : Nat) (Option.some Jvm.ClassFile.FieldType.int)]
set_option maxRecDepth 65536 in
theorem codes_eq : words1.filter isCode = codes1 := rfl
theorem w_codes : ∀ c ∈ words1.filter isCode, c.before args0 about1 = true := by
  rw [codes_eq]
  intro c hc
  simp only [codes1, List.mem_cons, List.not_mem_nil, or_false] at hc
  rcases hc with rfl | rfl | rfl | rfl | rfl | rfl | rfl | rfl | rfl
  · exact w_c0
  · exact w_c1
  · exact w_c2
  · exact w_c3
  · exact w_c4
  · exact w_c5
  · exact w_c6
  · exact w_c7
  · exact w_c8
set_option maxRecDepth 65536 in
theorem w_t1 : (words1.take 24).all (fun c => isCode c || c.before args0 about1) = true := by decide +kernel
set_option maxRecDepth 65536 in
theorem w_t2 : ((words1.drop 24).take 24).all (fun c => isCode c || c.before args0 about1) = true := by decide +kernel
set_option maxRecDepth 65536 in
theorem w_t3 : (((words1.drop 24).drop 24).take 24).all (fun c => isCode c || c.before args0 about1) = true := by decide +kernel
set_option maxRecDepth 65536 in
theorem w_t4 : (((words1.drop 24).drop 24).drop 24).all (fun c => isCode c || c.before args0 about1) = true := by decide +kernel
theorem w_tables : (allAtoms (Jvm.Cond.code x code maxLocals ret :: tables_1)).before args0 about1 = true := by
  rw [allAtoms_all]
  show words1.all (fun c => c.before args0 about1) = true
  refine all_split ?_ w_codes
  rw [← List.take_append_drop 24 words1, List.all_append, w_t1, ← List.take_append_drop 24 (words1.drop 24), List.all_append, w_t2, ← List.take_append_drop 24 ((words1.drop 24).drop 24), List.all_append, w_t3, w_t4]
  rfl
set_option maxRecDepth 65536 in
theorem w_case : (Jvm.Cond.and given_1 narrow_1).before args0 about1 = true := by decide +kernel
theorem w_applies : (headSpec (Jvm.Cond.code x code maxLocals ret :: tables_1) room_1).applies x e0.platform about1 = true :=
  (Spec.applies_iff w_frames).mpr ⟨w_running, w_runnable, w_alone, w_named, w_hears, w_ripe, w_room, w_tables⟩
theorem atStart : AtStart classFile x code maxLocals ret World_1 tables_1 room_1 Calls_1 rest_1 Pre_1 launch0 p0 e0 about1 theMethod args0 below0 :=
  ⟨lists_1, trivial, launch0.admits_env _ _ _, launch0.least_env, fairChoices_fair.cas, fairChoices_fair.clock, w_frames, w_args, w_heap, w_applies, trivial, trivial, w_case⟩
end start1
theorem witness_1 : WitnessClaimed_1 := ⟨start1.p0, start1.e0, start1.about1, start1.theMethod, start1.args0, start1.below0, start1.atStart⟩
end Jvm.Pilot.@@N@@
