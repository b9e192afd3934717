import JvmDerived
import JvmDerived.Pilot.@@N@@Statement
import JvmDerived.Pilot.@@N@@Code
set_option linter.unusedVariables false
set_option linter.unusedSimpArgs false
namespace Jvm.Pilot.@@N@@
open Jvm Jvm.ClassFile Sem Op Lib Jvm.Free Jvm.Stand Jvm.LawKit Jvm.RoadKit Bundle Jvm.Pilot.@@N@@.Jvm.D
section OwnKit
variable {p : Program} {l : Launch} {e : Env} {R : Room} {s : State} {m : MethodId} {args : Array Value} {below : List Frame} {meth : Method} {c : Code} {T T' : State} {locs : List Loc} {cells slots : Nat} {Z : State} {a0 : Array Value} {h : Heap} {CC SS : Nat} {QQ : Option Value → Heap → List Loc → Prop} {pc : Nat} {Ls : Array Slot} {rest : List Value}
/-- the run from the frame g on comes back, with what QQ says -/
def Go (p : Program) (e : Env) (below : List Frame) (s : State) (CC SS : Nat) (QQ : Option Value → Heap → List Loc → Prop) (T : State) (g : JFrame) : Prop :=
  ∃ s₂ o, Steps p.tables e below (T.setTop g) s₂ ∧ s₂.status = .running ∧ Ended s₂ below o ∧ ∃ v L, o = .returned v ∧ QQ v s₂.heap L ∧ FrameEnd s o s₂ L CC SS
/-- a callee's contract -/
def Met (l : Launch) (Z : State) (y : MethodName) (bytes : ByteArray) (maxL : Nat) (ret : Option FieldType) (ws : List Jvm.Cond) (rm : Room) (as' : Array Value) (h0 : Heap) (QQ : Option Value → Heap → List Loc → Prop) : Prop :=
  MetFree l y (head1 (Jvm.Cond.code y bytes maxL ret :: ws) rm) (fun a U => a = as' ∧ Z.Warmed39 U.vm ∧ U.heap = h0) (fun _ _ _ _ _ => True) (fun _ U o U' => ∃ v L, o = .returned v ∧ QQ v U'.heap L ∧ FrameEnd U o U' L rm.cells rm.slots)
theorem met_of {y : MethodName} {bytes : ByteArray} {maxL : Nat} {ret : Option FieldType} {ws : List Jvm.Cond} {rm : Room} {as' : Array Value} {h0 : Heap} (hx : plainFor y = true) (hef : ∀ m, entryFrame m as' maxL = mkF m 0 Ls [])
    (body : ∀ (p : Program) (e : Env) (s : State) (m : MethodId) (below : List Frame) (meth : Method) (c : Code) (s₁ : State), p.tables.exec = Jvm.exec → c.code = bytes → c.maxLocals = maxL → s.vm.findClass y.cls = some m.cls → meth.name = y.name → meth.sig.returnType = ret → meth.locks = false → Z.Warmed39 s.vm →
      Stand p l e rm s m as' below meth c s₁ [] 0 0 → s₁.heap = h0 → Go p e below s rm.cells rm.slots QQ s₁ (mkF m 0 Ls [])) : Met l Z y bytes maxL ret ws rm as' h0 QQ := by
  refine MetFree.of_bodySF hx hisR ?_
  intro p e s m args below meth c s₁ Bd hml0 hP hK
  obtain ⟨rfl, hZ, hh⟩ := hP
  have e0 : s₁.heap = h0 := by rw [← hh, Bd.state]; rfl
  have k := body p e s m below meth c s₁ Bd.exec Bd.bytes hml0 (findClass_of_methodNamed Bd.named) (name_of_methodNamed Bd.named Bd.method).1 Bd.returns Bd.notSynchronized hZ (Stand.of_body Bd) e0
  rw [hef m]
  exact k
theorem Go.st {g g' : JFrame} (st : ∀ t, Steps p.tables e below (T'.setTop g') t → Steps p.tables e below (T.setTop g) t) (k : Go p e below s CC SS QQ T' g') : Go p e below s CC SS QQ T g := by
  obtain ⟨s₂, o, h1, h2⟩ := k
  exact ⟨s₂, o, st _ h1, h2⟩
theorem Go.tr {g g' : JFrame} (st : Steps p.tables e below (T.setTop g) (T'.setTop g')) (k : Go p e below s CC SS QQ T' g') : Go p e below s CC SS QQ T g := by
  obtain ⟨s₂, o, h1, h2⟩ := k
  exact ⟨s₂, o, st.trans h1, h2⟩
-- the returns
theorem gRetZ (X : Stand p l e R s m args below meth c T locs cells slots) (hx : p.tables.exec = Jvm.exec) (hlk : meth.locks = false) {z z' : Int32} {t : FieldType} (hret : meth.sig.returnType = some t) (ht : t = .boolean ∨ t = .byte ∨ t = .char ∨ t = .short) (hd : decode c.code pc = .ok (.ireturn, 1)) (hz : nar t z = z')
    (hc : cells ≤ CC) (hs : slots ≤ SS) (hQ : QQ (some (.int z')) T.heap locs) : Go p e below s CC SS QQ T (mkF m pc Ls (.int z :: rest)) := by
  obtain ⟨fs, hr, hrun, hended, hW, hsame⟩ := X.leave (v := some (.int z')) (fun h => by rw [hret] at h; cases h) hlk
  exact ⟨_, _, retN X hx hret ht hd (by rw [hz]; exact hr), hrun, hended, _, _, rfl, hQ, ⟨_, rfl⟩, hW, hsame.mono hc hs⟩
theorem gRetI (X : Stand p l e R s m args below meth c T locs cells slots) (hx : p.tables.exec = Jvm.exec) (hlk : meth.locks = false) {z : Int32} (hret : meth.sig.returnType = some .int) (hd : decode c.code pc = .ok (.ireturn, 1))
    (hc : cells ≤ CC) (hs : slots ≤ SS) (hQ : QQ (some (.int z)) T.heap locs) : Go p e below s CC SS QQ T (mkF m pc Ls (.int z :: rest)) := by
  obtain ⟨fs, hr, hrun, hended, hW, hsame⟩ := X.leave (v := some (.int z)) (fun h => by rw [hret] at h; cases h) hlk
  exact ⟨_, _, retOut X hx hret rfl (Or.inl ⟨rfl, Or.inl rfl, z, rfl⟩) hd hr, hrun, hended, _, _, rfl, hQ, ⟨_, rfl⟩, hW, hsame.mono hc hs⟩
theorem gRetA (X : Stand p l e R s m args below meth c T locs cells slots) (hx : p.tables.exec = Jvm.exec) (hlk : meth.locks = false) {w : Value} {t : FieldType} (hret : meth.sig.returnType = some t) (ht : t.isReference = true) (hn : narrow t w = w) (hw : w.isRef = true) (hd : decode c.code pc = .ok (.areturn, 1))
    (hc : cells ≤ CC) (hs : slots ≤ SS) (hQ : QQ (some w) T.heap locs) : Go p e below s CC SS QQ T (mkF m pc Ls (w :: rest)) := by
  obtain ⟨fs, hr, hrun, hended, hW, hsame⟩ := X.leave (v := some w) (fun h => by rw [hret] at h; cases h) hlk
  exact ⟨_, _, retOut X hx hret hn (Or.inr (Or.inr (Or.inr (Or.inr ⟨rfl, ht, hw⟩)))) hd hr, hrun, hended, _, _, rfl, hQ, ⟨_, rfl⟩, hW, hsame.mono hc hs⟩
theorem gRetV (X : Stand p l e R s m args below meth c T locs cells slots) (hx : p.tables.exec = Jvm.exec) (hlk : meth.locks = false) (hret : meth.sig.returnType = none) (hd : decode c.code pc = .ok (.return_, 1))
    (hc : cells ≤ CC) (hs : slots ≤ SS) (hQ : QQ none T.heap locs) : Go p e below s CC SS QQ T (mkF m pc Ls []) := by
  obtain ⟨fs, hr, hrun, hended, hW, hsame⟩ := X.leave (v := none) (fun _ => rfl) hlk
  exact ⟨_, _, X.returnOut hx hret hd hr, hrun, hended, _, _, rfl, hQ, ⟨_, rfl⟩, hW, hsame.mono hc hs⟩
-- the plain steps
theorem gAloadN (X : Stand p l e R s m args below meth c T locs cells slots) (hx : p.tables.exec = Jvm.exec) {k : Fin 4} {v : Value} (hd : decode c.code pc = .ok (.aload_n k, 1)) (hl : Ls[k.val]? = some (.val v)) (hv : v.isRef = true)
    (kk : Go p e below s CC SS QQ T (mkF m (pc + 1) Ls (v :: rest))) : Go p e below s CC SS QQ T (mkF m pc Ls rest) := Go.st (fun _ => XS.aloadN X.here hx rfl hd hl hv) kk
theorem gAload (X : Stand p l e R s m args below meth c T locs cells slots) (hx : p.tables.exec = Jvm.exec) {k : Nat} {v : Value} (hd : decode c.code pc = .ok (.aload k, 2)) (hl : Ls[k]? = some (.val v)) (hv : v.isRef = true)
    (kk : Go p e below s CC SS QQ T (mkF m (pc + 2) Ls (v :: rest))) : Go p e below s CC SS QQ T (mkF m pc Ls rest) := Go.st (fun _ => XS.aload X.here hx rfl hd hl hv) kk
theorem gIloadN (X : Stand p l e R s m args below meth c T locs cells slots) (hx : p.tables.exec = Jvm.exec) {k : Fin 4} {v : Int32} (hd : decode c.code pc = .ok (.iload_n k, 1)) (hl : Ls[k.val]? = some (.val (.int v)))
    (kk : Go p e below s CC SS QQ T (mkF m (pc + 1) Ls (.int v :: rest))) : Go p e below s CC SS QQ T (mkF m pc Ls rest) := Go.st (fun _ => XS.iloadN X.here hx rfl hd hl) kk
theorem gIload (X : Stand p l e R s m args below meth c T locs cells slots) (hx : p.tables.exec = Jvm.exec) {k : Nat} {v : Int32} (hd : decode c.code pc = .ok (.iload k, 2)) (hl : Ls[k]? = some (.val (.int v)))
    (kk : Go p e below s CC SS QQ T (mkF m (pc + 2) Ls (.int v :: rest))) : Go p e below s CC SS QQ T (mkF m pc Ls rest) := Go.st (fun _ => XS.iload X.here hx rfl hd hl) kk
theorem gIconst (X : Stand p l e R s m args below meth c T locs cells slots) (hx : p.tables.exec = Jvm.exec) {i : Int} (v : Int32) (hd : decode c.code pc = .ok (.iconst i, 1)) (hv : Int32.ofInt i = v)
    (kk : Go p e below s CC SS QQ T (mkF m (pc + 1) Ls (.int v :: rest))) : Go p e below s CC SS QQ T (mkF m pc Ls rest) := by subst hv; exact Go.st (fun _ => XS.iconst X.here hx rfl hd) kk
theorem gBipush (X : Stand p l e R s m args below meth c T locs cells slots) (hx : p.tables.exec = Jvm.exec) {i : Int} (v : Int32) (hd : decode c.code pc = .ok (.bipush i, 2)) (hv : (Int8.ofInt i).toInt32 = v)
    (kk : Go p e below s CC SS QQ T (mkF m (pc + 2) Ls (.int v :: rest))) : Go p e below s CC SS QQ T (mkF m pc Ls rest) := by subst hv; exact Go.st (fun _ => XS.bipush X.here hx rfl hd) kk
theorem gSipush (X : Stand p l e R s m args below meth c T locs cells slots) (hx : p.tables.exec = Jvm.exec) {i : Int} (v : Int32) (hd : decode c.code pc = .ok (.sipush i, 3)) (hv : (Int16.ofInt i).toInt32 = v)
    (kk : Go p e below s CC SS QQ T (mkF m (pc + 3) Ls (.int v :: rest))) : Go p e below s CC SS QQ T (mkF m pc Ls rest) := by subst hv; exact Go.st (fun _ => XS.sipush X.here hx rfl hd) kk
theorem gNull (X : Stand p l e R s m args below meth c T locs cells slots) (hx : p.tables.exec = Jvm.exec) (hd : decode c.code pc = .ok (.aconst_null, 1))
    (kk : Go p e below s CC SS QQ T (mkF m (pc + 1) Ls (.null :: rest))) : Go p e below s CC SS QQ T (mkF m pc Ls rest) := Go.st (fun _ => XS.aconstNull X.here hx rfl hd) kk
theorem gLdc (X : Stand p l e R s m args below meth c T locs cells slots) (hx : p.tables.exec = Jvm.exec) (hZ : Z.Warmed39 s.vm) {own : String} {index : Nat} (v : Int32) (hown : s.vm.findClass own = some m.cls) (w : (Cond.constant own index v).before a0 Z = true) (hd : decode c.code pc = .ok (.ldc index, 2))
    (kk : Go p e below s CC SS QQ T (mkF m (pc + 2) Ls (.int v :: rest))) : Go p e below s CC SS QQ T (mkF m pc Ls rest) := Go.st (X.ldcInt hx hown (mvT hZ w) rfl hd) kk
theorem gIadd (X : Stand p l e R s m args below meth c T locs cells slots) (hx : p.tables.exec = Jvm.exec) {x y : Int32} (hd : decode c.code pc = .ok (.iadd, 1))
    (kk : Go p e below s CC SS QQ T (mkF m (pc + 1) Ls (.int (x + y) :: rest))) : Go p e below s CC SS QQ T (mkF m pc Ls (.int y :: .int x :: rest)) := Go.st (fun _ => XS.iadd X.here hx rfl hd rfl) kk
theorem gIsub (X : Stand p l e R s m args below meth c T locs cells slots) (hx : p.tables.exec = Jvm.exec) {x y : Int32} (hd : decode c.code pc = .ok (.isub, 1))
    (kk : Go p e below s CC SS QQ T (mkF m (pc + 1) Ls (.int (x - y) :: rest))) : Go p e below s CC SS QQ T (mkF m pc Ls (.int y :: .int x :: rest)) := Go.st (fun _ => XS.isub X.here hx rfl hd rfl) kk
theorem gIand (X : Stand p l e R s m args below meth c T locs cells slots) (hx : p.tables.exec = Jvm.exec) {x y : Int32} (hd : decode c.code pc = .ok (.iand, 1))
    (kk : Go p e below s CC SS QQ T (mkF m (pc + 1) Ls (.int (x &&& y) :: rest))) : Go p e below s CC SS QQ T (mkF m pc Ls (.int y :: .int x :: rest)) := Go.st (fun _ => XS.iand X.here hx rfl hd rfl) kk
theorem gImul (X : Stand p l e R s m args below meth c T locs cells slots) (hx : p.tables.exec = Jvm.exec) {x y : Int32} (hd : decode c.code pc = .ok (.imul, 1))
    (kk : Go p e below s CC SS QQ T (mkF m (pc + 1) Ls (.int (x * y) :: rest))) : Go p e below s CC SS QQ T (mkF m pc Ls (.int y :: .int x :: rest)) := Go.st (fun _ => XS.imul X.here hx rfl hd rfl) kk
theorem gIxor (X : Stand p l e R s m args below meth c T locs cells slots) (hx : p.tables.exec = Jvm.exec) {x y : Int32} (hd : decode c.code pc = .ok (.ixor, 1))
    (kk : Go p e below s CC SS QQ T (mkF m (pc + 1) Ls (.int (x ^^^ y) :: rest))) : Go p e below s CC SS QQ T (mkF m pc Ls (.int y :: .int x :: rest)) := Go.st (fun _ => XT.ixor X.here hx rfl hd rfl) kk
theorem gIshl (X : Stand p l e R s m args below meth c T locs cells slots) (hx : p.tables.exec = Jvm.exec) {x y : Int32} (hd : decode c.code pc = .ok (.ishl, 1))
    (kk : Go p e below s CC SS QQ T (mkF m (pc + 1) Ls (.int (x <<< (y &&& 31)) :: rest))) : Go p e below s CC SS QQ T (mkF m pc Ls (.int y :: .int x :: rest)) := Go.st (fun _ => XT.ishl X.here hx rfl hd rfl) kk
theorem gIshr (X : Stand p l e R s m args below meth c T locs cells slots) (hx : p.tables.exec = Jvm.exec) {x y : Int32} (hd : decode c.code pc = .ok (.ishr, 1))
    (kk : Go p e below s CC SS QQ T (mkF m (pc + 1) Ls (.int (x >>> (y &&& 31)) :: rest))) : Go p e below s CC SS QQ T (mkF m pc Ls (.int y :: .int x :: rest)) := Go.st (fun _ => XT.ishr X.here hx rfl hd rfl) kk
theorem gIushr (X : Stand p l e R s m args below meth c T locs cells slots) (hx : p.tables.exec = Jvm.exec) {x y : Int32} (hd : decode c.code pc = .ok (.iushr, 1))
    (kk : Go p e below s CC SS QQ T (mkF m (pc + 1) Ls (.int (XT.ushr x y) :: rest))) : Go p e below s CC SS QQ T (mkF m pc Ls (.int y :: .int x :: rest)) := Go.st (fun _ => XT.iushr X.here hx rfl hd rfl) kk
theorem gIrem (X : Stand p l e R s m args below meth c T locs cells slots) (hx : p.tables.exec = Jvm.exec) {x y : Int32} (hd : decode c.code pc = .ok (.irem, 1)) (hy : y ≠ 0)
    (kk : Go p e below s CC SS QQ T (mkF m (pc + 1) Ls (.int (x % y) :: rest))) : Go p e below s CC SS QQ T (mkF m pc Ls (.int y :: .int x :: rest)) := Go.st (fun _ => iremM X hx rfl hd rfl hy) kk
theorem gI2b (X : Stand p l e R s m args below meth c T locs cells slots) (hx : p.tables.exec = Jvm.exec) {x : Int32} (hd : decode c.code pc = .ok (.i2b, 1))
    (kk : Go p e below s CC SS QQ T (mkF m (pc + 1) Ls (.int x.toInt8.toInt32 :: rest))) : Go p e below s CC SS QQ T (mkF m pc Ls (.int x :: rest)) := Go.st (fun _ => XT.i2b X.here hx rfl hd rfl) kk
theorem gI2c (X : Stand p l e R s m args below meth c T locs cells slots) (hx : p.tables.exec = Jvm.exec) {x : Int32} (hd : decode c.code pc = .ok (.i2c, 1))
    (kk : Go p e below s CC SS QQ T (mkF m (pc + 1) Ls (.int x.toUInt32.toUInt16.toUInt32.toInt32 :: rest))) : Go p e below s CC SS QQ T (mkF m pc Ls (.int x :: rest)) := Go.st (fun _ => XT.i2c X.here hx rfl hd rfl) kk
theorem gDup (X : Stand p l e R s m args below meth c T locs cells slots) (hx : p.tables.exec = Jvm.exec) {x : Value} (hd : decode c.code pc = .ok (.dup, 1)) (hc : x.category = 1)
    (kk : Go p e below s CC SS QQ T (mkF m (pc + 1) Ls (x :: x :: rest))) : Go p e below s CC SS QQ T (mkF m pc Ls (x :: rest)) := Go.st (fun _ => XS.dup X.here hx rfl hd rfl hc) kk
theorem gPop (X : Stand p l e R s m args below meth c T locs cells slots) (hx : p.tables.exec = Jvm.exec) {x : Value} (hd : decode c.code pc = .ok (.pop, 1)) (hc : x.category = 1)
    (kk : Go p e below s CC SS QQ T (mkF m (pc + 1) Ls rest)) : Go p e below s CC SS QQ T (mkF m pc Ls (x :: rest)) := Go.st (fun _ => XT.pop X.here hx rfl hd rfl hc) kk
theorem gIstoreN (X : Stand p l e R s m args below meth c T locs cells slots) (hx : p.tables.exec = Jvm.exec) {k : Fin 4} {x : Int32} (l' : Array Slot) (hd : decode c.code pc = .ok (.istore_n k, 1)) (hl : storeLocals Ls k.val (.int x) = some l')
    (kk : Go p e below s CC SS QQ T (mkF m (pc + 1) l' rest)) : Go p e below s CC SS QQ T (mkF m pc Ls (.int x :: rest)) := Go.st (fun _ => XS.istoreN X.here hx rfl hd rfl hl) kk
theorem gIstore (X : Stand p l e R s m args below meth c T locs cells slots) (hx : p.tables.exec = Jvm.exec) {k : Nat} {x : Int32} (l' : Array Slot) (hd : decode c.code pc = .ok (.istore k, 2)) (hl : storeLocals Ls k (.int x) = some l')
    (kk : Go p e below s CC SS QQ T (mkF m (pc + 2) l' rest)) : Go p e below s CC SS QQ T (mkF m pc Ls (.int x :: rest)) := Go.st (fun _ => XS.istore X.here hx rfl hd rfl hl) kk
theorem gAstoreN (X : Stand p l e R s m args below meth c T locs cells slots) (hx : p.tables.exec = Jvm.exec) {k : Fin 4} {x : Value} (l' : Array Slot) (hd : decode c.code pc = .ok (.astore_n k, 1)) (hv : x.isRef = true) (hl : storeLocals Ls k.val x = some l')
    (kk : Go p e below s CC SS QQ T (mkF m (pc + 1) l' rest)) : Go p e below s CC SS QQ T (mkF m pc Ls (x :: rest)) := Go.st (fun _ => XS.astoreN X.here hx rfl hd rfl hv hl) kk
theorem gAstore (X : Stand p l e R s m args below meth c T locs cells slots) (hx : p.tables.exec = Jvm.exec) {k : Nat} {x : Value} (l' : Array Slot) (hd : decode c.code pc = .ok (.astore k, 2)) (hv : x.isRef = true) (hl : storeLocals Ls k x = some l')
    (kk : Go p e below s CC SS QQ T (mkF m (pc + 2) l' rest)) : Go p e below s CC SS QQ T (mkF m pc Ls (x :: rest)) := Go.st (fun _ => XS.astore X.here hx rfl hd rfl hv hl) kk
theorem gIinc (X : Stand p l e R s m args below meth c T locs cells slots) (hx : p.tables.exec = Jvm.exec) {k : Nat} {cst : Int} {x : Int32} (v : Int32) (l' : Array Slot) (hd : decode c.code pc = .ok (.iinc k cst, 3)) (hv : Int32.ofInt cst = v) (hl : Ls[k]? = some (.val (.int x))) (hl' : storeLocals Ls k (.int (x + v)) = some l')
    (kk : Go p e below s CC SS QQ T (mkF m (pc + 3) l' rest)) : Go p e below s CC SS QQ T (mkF m pc Ls rest) := by subst hv; exact Go.st (fun _ => XS.iinc X.here hx rfl hd hl hl') kk
theorem gGoto (X : Stand p l e R s m args below meth c T locs cells slots) (hx : p.tables.exec = Jvm.exec) {o : Int} (pc' : Nat) (hd : decode c.code pc = .ok (.goto o, 3)) (ho : 0 ≤ (pc : Int) + o) (hp : ((pc : Int) + o).toNat = pc')
    (kk : Go p e below s CC SS QQ T (mkF m pc' Ls rest)) : Go p e below s CC SS QQ T (mkF m pc Ls rest) := Go.st (fun _ => XS.goto X.here hx rfl (pc0 := pc) rfl hd ho hp) kk
-- the branches: both roads
theorem gIcmp (X : Stand p l e R s m args below meth c T locs cells slots) (hx : p.tables.exec = Jvm.exec) {cd : ClassFile.Cond} {x y : Int32} {o : Int} (pc' : Nat) (hd : decode c.code pc = .ok (.if_icmp cd o, 3)) (ho : 0 ≤ (pc : Int) + o) (hp : ((pc : Int) + o).toNat = pc')
    (kt : if_icmp.holds cd x y = true → Go p e below s CC SS QQ T (mkF m pc' Ls rest)) (kf : if_icmp.holds cd x y = false → Go p e below s CC SS QQ T (mkF m (pc + 3) Ls rest)) : Go p e below s CC SS QQ T (mkF m pc Ls (.int y :: .int x :: rest)) := by
  cases hq : if_icmp.holds cd x y
  · exact Go.st (fun _ => XS.icmpNo X.here hx rfl hd rfl hq) (kf hq)
  · exact Go.st (fun _ => XS.icmpYes X.here hx rfl (pc0 := pc) rfl hd rfl hq ho hp) (kt hq)
theorem gIf (X : Stand p l e R s m args below meth c T locs cells slots) (hx : p.tables.exec = Jvm.exec) {cd : ClassFile.Cond} {x : Int32} {o : Int} (pc' : Nat) (hd : decode c.code pc = .ok (.ifCond cd o, 3)) (ho : 0 ≤ (pc : Int) + o) (hp : ((pc : Int) + o).toNat = pc')
    (kt : if_icmp.holds cd x 0 = true → Go p e below s CC SS QQ T (mkF m pc' Ls rest)) (kf : if_icmp.holds cd x 0 = false → Go p e below s CC SS QQ T (mkF m (pc + 3) Ls rest)) : Go p e below s CC SS QQ T (mkF m pc Ls (.int x :: rest)) := by
  cases hq : if_icmp.holds cd x 0
  · exact Go.st (fun _ => XS.ifNo X.here hx rfl hd rfl ((if0 _ _).trans hq)) (kf hq)
  · exact Go.st (fun _ => XS.ifYes X.here hx rfl (pc0 := pc) rfl hd rfl ((if0 _ _).trans hq) ho hp) (kt hq)
theorem o_eqT {x y : Int32} (h : if_icmp.holds .eq x y = true) : x = y := Decidable.byContradiction fun q => by rw [(feq q).1] at h; cases h
theorem o_eqF {x y : Int32} (h : if_icmp.holds .eq x y = false) : ¬ x = y := fun q => by rw [(teq q).1] at h; cases h
theorem o_neT {x y : Int32} (h : if_icmp.holds .ne x y = true) : ¬ x = y := fun q => by rw [(teq q).2] at h; cases h
theorem o_neF {x y : Int32} (h : if_icmp.holds .ne x y = false) : x = y := Decidable.byContradiction fun q => by rw [(feq q).2] at h; cases h
theorem o_ltT {x y : Int32} (h : if_icmp.holds .lt x y = true) : x < y := Decidable.byContradiction fun q => by rw [(flt q).1] at h; cases h
theorem o_ltF {x y : Int32} (h : if_icmp.holds .lt x y = false) : ¬ x < y := fun q => by rw [(tlt q).1] at h; cases h
theorem o_geT {x y : Int32} (h : if_icmp.holds .ge x y = true) : ¬ x < y := fun q => by rw [(tlt q).2.1] at h; cases h
theorem o_geF {x y : Int32} (h : if_icmp.holds .ge x y = false) : x < y := Decidable.byContradiction fun q => by rw [(flt q).2.1] at h; cases h
theorem o_gtT {x y : Int32} (h : if_icmp.holds .gt x y = true) : y < x := Decidable.byContradiction fun q => by rw [(flt q).2.2.1] at h; cases h
theorem o_gtF {x y : Int32} (h : if_icmp.holds .gt x y = false) : ¬ y < x := fun q => by rw [(tlt q).2.2.1] at h; cases h
theorem o_leT {x y : Int32} (h : if_icmp.holds .le x y = true) : ¬ y < x := fun q => by rw [(tlt q).2.2.2] at h; cases h
theorem o_leF {x y : Int32} (h : if_icmp.holds .le x y = false) : y < x := Decidable.byContradiction fun q => by rw [(flt q).2.2.2] at h; cases h
-- calls, by the callee's contract
theorem gStatic (X : Stand p l e R s m args below meth c T locs cells slots) (hx : p.tables.exec = Jvm.exec) (hZ : Z.Warmed39 s.vm) {own : String} {index : Nat} {y : MethodName} {bytes : ByteArray} {maxL : Nat} {ret : Option FieldType} {rm : Room} {Q' : Option Value → Heap → List Loc → Prop} {argsL rest : List Value} {W : Nat}
    (hown : s.vm.findClass own = some m.cls) (hy : y.cls ≠ "java/lang/invoke/MethodHandle" ∧ y.cls ≠ "java/lang/invoke/VarHandle") (w1 : (Cond.methodLink own index y).before a0 Z = true) (w2 : (Cond.static y).before a0 Z = true) (w3 : (Cond.initialized y.cls).before a0 Z = true) (w4 : (Cond.code y bytes maxL ret).before a0 Z = true)
    (hM : Met l Z y bytes maxL ret [] rm argsL.toArray h Q') (eT : T.heap = h) (hsize : Ls.size = c.maxLocals) (hlen : ∀ sig, parseMethodDescriptor y.desc = some sig → argsL.length = sig.parameters.length) {st : List Value} (hst : st = argsL.reverse ++ rest) (hW : (rest.map fun v => v.category).sum ≤ W)
    (hf : rm.frames + 1 ≤ R.frames) (hl : W + (maxL + 11) + rm.locals ≤ R.locals) (hc : cells + rm.cells ≤ R.cells) (hs : slots + rm.slots ≤ R.slots) (hd : decode c.code pc = .ok (.invokestatic index, 3))
    (kk : ∀ (v : Option Value) (T' : State) (L : List Loc), Stand p l e R s m args below meth c T' (locs ++ L) (cells + rm.cells) (slots + rm.slots) → Q' v T'.heap L → Go p e below s CC SS QQ T' (mkF m (pc + 3) Ls (v.toList ++ rest))) : Go p e below s CC SS QQ T (mkF m pc Ls st) := by
  subst hst
  obtain ⟨v, vm₁, ⟨T', L', k', n'⟩, -, X', ⟨Lc, hQ, l1, y1, z1⟩, st⟩ := Jvm.LawKit.callS X hx (y := y) hown (mvT hZ w1) (mvT hZ w2) (mvT hZ w3) (mvT hZ w4) hy (backOf (W := W) hM hZ w4 w3 hf hl) (g := mkF m pc Ls (argsL.reverse ++ rest)) rfl hsize (argsL := argsL) (rest := rest) hlen rfl (by show 2 * 0 + _ ≤ _; omega) hd (fun _ _ => ⟨rfl, eT, hc, hs⟩)
  dsimp only [Pt.U, Pt.locs, Pt.cells, Pt.slots] at X' l1 y1 z1 st hQ
  subst l1 y1 z1
  exact Go.st st (kk v T' Lc X' hQ)
theorem gInit (X : Stand p l e R s m args below meth c T locs cells slots) (hx : p.tables.exec = Jvm.exec) (hZ : Z.Warmed39 s.vm) {own : String} {index : Nat} {y : MethodName} {bytes : ByteArray} {maxL : Nat} {rm : Room} {Q' : Option Value → Heap → List Loc → Prop} {a : Addr} {argsL rest : List Value} {W : Nat}
    (hown : s.vm.findClass own = some m.cls) (hy1 : y.name = "<init>") (hy : y.cls ≠ "java/lang/invoke/MethodHandle" ∧ y.cls ≠ "java/lang/invoke/VarHandle") (w1 : (Cond.methodLink own index y).before a0 Z = true) (w2 : (Cond.instanceMethod y).before a0 Z = true) (w3 : (Cond.initialized y.cls).before a0 Z = true) (w4 : (Cond.code y bytes maxL none).before a0 Z = true)
    (hM : Met l Z y bytes maxL none [] rm (.ref a :: argsL).toArray h Q') (eT : T.heap = h) (hsize : Ls.size = c.maxLocals) (hlen : ∀ sig, parseMethodDescriptor y.desc = some sig → argsL.length = sig.parameters.length) {st : List Value} (hst : st = argsL.reverse ++ .ref a :: rest) (hW : (rest.map fun v => v.category).sum ≤ W)
    (hf : rm.frames + 1 ≤ R.frames) (hl : W + (maxL + 11) + rm.locals ≤ R.locals) (hc : cells + rm.cells ≤ R.cells) (hs : slots + rm.slots ≤ R.slots) (hd : decode c.code pc = .ok (.invokespecial index, 3))
    (kk : ∀ (v : Option Value) (T' : State) (L : List Loc), Stand p l e R s m args below meth c T' (locs ++ L) (cells + rm.cells) (slots + rm.slots) → Q' v T'.heap L → Go p e below s CC SS QQ T' (mkF m (pc + 3) Ls (v.toList ++ rest))) : Go p e below s CC SS QQ T (mkF m pc Ls st) := by
  subst hst
  obtain ⟨v, vm₁, ⟨T', L', k', n'⟩, -, X', ⟨Lc, hQ, l1, y1, z1⟩, st⟩ := X.specialBack hx (y := y) hy1 hown (mvT hZ w1) (mvT hZ w2) (mvT hZ w4) hy (backOf (W := W) hM hZ w4 w3 hf hl) (g := mkF m pc Ls (argsL.reverse ++ .ref a :: rest)) rfl hsize (Steps.refl _) (a := a) (argsL := argsL) (rest := rest) hlen rfl (by show 2 * 0 + _ ≤ _; omega) hd (fun _ _ => ⟨rfl, eT, hc, hs⟩)
  dsimp only [Pt.U, Pt.locs, Pt.cells, Pt.slots] at X' l1 y1 z1 st hQ
  subst l1 y1 z1
  exact Go.tr st (kk v T' Lc X' hQ)
theorem gVirtual (X : Stand p l e R s m args below meth c T locs cells slots) (hx : p.tables.exec = Jvm.exec) (hZ : Z.Warmed39 s.vm) {own : String} {index : Nat} {y : MethodName} {bytes : ByteArray} {maxL : Nat} {ret : Option FieldType} {rm : Room} {Q' : Option Value → Heap → List Loc → Prop} {a : Addr} {argsL rest : List Value} {W : Nat}
    (hown : s.vm.findClass own = some m.cls) (hy : y.cls ≠ "java/lang/invoke/MethodHandle" ∧ y.cls ≠ "java/lang/invoke/VarHandle") (w1 : (Cond.methodLink own index y).before a0 Z = true) (w2 : (Cond.declares y).before a0 Z = true) (w5 : (Cond.instanceMethod y).before a0 Z = true) (w6 : (Cond.selects y.cls y y).before a0 Z = true) (w3 : (Cond.initialized y.cls).before a0 Z = true) (w4 : (Cond.code y bytes maxL ret).before a0 Z = true)
    (E : Exa Z h a y.cls) (hM : Met l Z y bytes maxL ret [] rm (.ref a :: argsL).toArray h Q') (eT : T.heap = h) (hsize : Ls.size = c.maxLocals) (hlen : ∀ sig, parseMethodDescriptor y.desc = some sig → argsL.length = sig.parameters.length) {st : List Value} (hst : st = argsL.reverse ++ .ref a :: rest) (hW : (rest.map fun v => v.category).sum ≤ W)
    (hf : rm.frames + 1 ≤ R.frames) (hl : W + (maxL + 11) + rm.locals ≤ R.locals) (hc : cells + rm.cells ≤ R.cells) (hs : slots + rm.slots ≤ R.slots) (hd : decode c.code pc = .ok (.invokevirtual index, 3))
    (kk : ∀ (v : Option Value) (T' : State) (L : List Loc), Stand p l e R s m args below meth c T' (locs ++ L) (cells + rm.cells) (slots + rm.slots) → Q' v T'.heap L → Go p e below s CC SS QQ T' (mkF m (pc + 3) Ls (v.toList ++ rest))) : Go p e below s CC SS QQ T (mkF m pc Ls st) := by
  subst hst
  obtain ⟨cq, kq, qa, qb, qc⟩ := isOf hZ eT E
  obtain ⟨v, vm₁, ⟨T', L', k', n'⟩, -, X', ⟨Lc, hQ, l1, y1, z1⟩, st⟩ := X.virtualBack hx (y := y) (z := y) hown (mvT hZ w1) (mvT hZ w2) (notFace_of_selects (args := #[]) (mvT hZ w6)) (mvT hZ w6) (mvT hZ w5) hy (backOf (W := W) hM hZ w4 w3 hf hl) qa qc (g := mkF m pc Ls (argsL.reverse ++ .ref a :: rest)) rfl hsize (Steps.refl _) (argsL := argsL) (rest := rest) hlen rfl (by show 2 * 0 + _ ≤ _; omega) hd (fun _ _ => ⟨rfl, eT, hc, hs⟩)
  dsimp only [Pt.U, Pt.locs, Pt.cells, Pt.slots] at X' l1 y1 z1 st hQ
  subst l1 y1 z1
  exact Go.tr st (kk v T' Lc X' hQ)
theorem gPrivate (X : Stand p l e R s m args below meth c T locs cells slots) (hx : p.tables.exec = Jvm.exec) (hZ : Z.Warmed39 s.vm) {own : String} {index : Nat} {y : MethodName} {bytes : ByteArray} {maxL : Nat} {ret : Option FieldType} {rm : Room} {Q' : Option Value → Heap → List Loc → Prop} {a : Addr} {C : String} {argsL rest : List Value} {W : Nat}
    (hown : s.vm.findClass own = some m.cls) (hy : y.cls ≠ "java/lang/invoke/MethodHandle" ∧ y.cls ≠ "java/lang/invoke/VarHandle") (w1 : (Cond.methodLink own index y).before a0 Z = true) (w2 : (Cond.instanceMethod y).before a0 Z = true) {kq : Nat} (w6 : (Cond.instantiable y.cls kq).before a0 Z = true) (w5 : (Cond.privateMethod y).before a0 Z = true) (w3 : (Cond.initialized y.cls).before a0 Z = true) (w4 : (Cond.code y bytes maxL ret).before a0 Z = true)
    (E : Exa Z h a C) (hM : Met l Z y bytes maxL ret [] rm (.ref a :: argsL).toArray h Q') (eT : T.heap = h) (hsize : Ls.size = c.maxLocals) (hlen : ∀ sig, parseMethodDescriptor y.desc = some sig → argsL.length = sig.parameters.length) {st : List Value} (hst : st = argsL.reverse ++ .ref a :: rest) (hW : (rest.map fun v => v.category).sum ≤ W)
    (hf : rm.frames + 1 ≤ R.frames) (hl : W + (maxL + 11) + rm.locals ≤ R.locals) (hc : cells + rm.cells ≤ R.cells) (hs : slots + rm.slots ≤ R.slots) (hd : decode c.code pc = .ok (.invokevirtual index, 3))
    (kk : ∀ (v : Option Value) (T' : State) (L : List Loc), Stand p l e R s m args below meth c T' (locs ++ L) (cells + rm.cells) (slots + rm.slots) → Q' v T'.heap L → Go p e below s CC SS QQ T' (mkF m (pc + 3) Ls (v.toList ++ rest))) : Go p e below s CC SS QQ T (mkF m pc Ls st) := by
  subst hst
  obtain ⟨cq, q1, q2⟩ := E.cell
  obtain ⟨ci, ki, hi1, hi2, -, hi3, -⟩ := Cond.instantiable_spec (mvT (args := #[]) hZ w6)
  have hsel : (Cond.selects y.cls y y).before args s = true := selects_self_of_private hi1 hi2 (by simpa using (Bool.or_eq_false_iff.mp hi3).1) (Cond.privateMethod_at (mvP hZ w5 (args := #[]))) (mvT hZ w2) hy
  obtain ⟨v, vm₁, ⟨T', L', k', n'⟩, -, X', ⟨Lc, hQ, l1, y1, z1⟩, st⟩ := X.privateBack hx (y := y) hown (mvT hZ w1) (mvT hZ w2) hsel (Cond.privateMethod_at (mvP hZ w5 (args := #[]))) (mvT hZ w4) hy (backOf (W := W) hM hZ w4 w3 hf hl) (g := mkF m pc Ls (argsL.reverse ++ .ref a :: rest)) rfl hsize (Steps.refl _) (a := a) (by rw [eT]; exact q1) q2 (argsL := argsL) (rest := rest) hlen rfl (by show 2 * 0 + _ ≤ _; omega) hd (fun _ _ => ⟨rfl, eT, hc, hs⟩)
  dsimp only [Pt.U, Pt.locs, Pt.cells, Pt.slots] at X' l1 y1 z1 st hQ
  subst l1 y1 z1
  exact Go.tr st (kk v T' Lc X' hQ)
theorem gObjInit (X : Stand p l e R s m args below meth c T locs cells slots) (hx : p.tables.exec = Jvm.exec) (hZ : Z.Warmed39 s.vm) {own : String} {idx : Nat} (hown : s.vm.findClass own = some m.cls) (w1 : (Cond.methodLink own idx Lib.objectInit).before a0 Z = true) (w2 : (Cond.instanceMethod Lib.objectInit).before a0 Z = true)
    (w3 : (Cond.code Lib.objectInit object_method_1_code 1 none).before a0 Z = true) (eT : T.heap = h) (hsize : Ls.size = c.maxLocals) {a : Addr} (hd : decode c.code pc = .ok (.invokespecial idx, 3)) (hf : 1 ≤ R.frames) {W : Nat} (hW : (rest.map fun v => v.category).sum ≤ W) (hl : W + 12 ≤ R.locals)
    (kk : ∀ T', Stand p l e R s m args below meth c T' locs cells slots → T'.heap = h → Go p e below s CC SS QQ T' (mkF m (pc + 3) Ls rest)) : Go p e below s CC SS QQ T (mkF m pc Ls (.ref a :: rest)) := by
  obtain ⟨T', X', e', st⟩ := initO X hx hZ hown w1 w2 w3 eT (g := mkF m pc Ls (.ref a :: rest)) rfl hsize rfl hd hf (W := W) (by show 2 * 0 + _ ≤ _; omega) hl
  exact Go.st st (kk T' X' e')
-- fields, new objects, arrays
theorem gGetF (X : Stand p l e R s m args below meth c T locs cells slots) (hx : p.tables.exec = Jvm.exec) (hZ : Z.Warmed39 s.vm) {own O n d : String} {index : Nat} (hown : s.vm.findClass own = some m.cls) (w : (Cond.fieldLink own index O n d).before a0 Z = true) (eT : T.heap = h) {a : Addr} {v : Value} (F : Fld Z h a O n d v) (hd : decode c.code pc = .ok (.getfield index, 3))
    (kk : ∀ T', Stand p l e R s m args below meth c T' locs cells slots → T'.heap = h → Go p e below s CC SS QQ T' (mkF m (pc + 3) Ls (v :: rest))) : Go p e below s CC SS QQ T (mkF m pc Ls (.ref a :: rest)) := by
  obtain ⟨T', X', e', st⟩ := getF X hx hZ hown (host := "") (Or.inl w) Via.refl eT F (g := mkF m pc Ls (.ref a :: rest)) rfl rfl hd
  exact Go.st st (kk T' X' e')
theorem gPutF (X : Stand p l e R s m args below meth c T locs cells slots) (hx : p.tables.exec = Jvm.exec) (hZ : Z.Warmed39 s.vm) {own O n d C : String} {index kq : Nat} {ty : FieldType} (hown : s.vm.findClass own = some m.cls) (w : (Cond.fieldLink own index O n d).before a0 Z = true) (eT : T.heap = h) {a : Addr} {v old : Value} (F : Fld Z h a O n d old) (E : Exa Z h a C)
    (L : (Cond.lays C O n d).before a0 Z = true ∨ ((Cond.laysFinal C O n d).before a0 Z = true ∧ own = O ∧ meth.name = "<init>")) (wi : (Cond.instantiable C kq).before a0 Z = true) (hty : parseFieldDescriptor d = some ty) (hn : narrow ty v = v) (hf : fits ty v = true) (hd : decode c.code pc = .ok (.putfield index, 3))
    (kk : ∀ T' h', Stand p l e R s m args below meth c T' (locs ++ [⟨a, Jvm.RoadKit.slotOf Z O n d⟩]) cells slots → T'.heap = h' → Wr h h' a (Jvm.RoadKit.slotOf Z O n d) v → Go p e below s CC SS QQ T' (mkF m (pc + 3) Ls rest)) : Go p e below s CC SS QQ T (mkF m pc Ls (v :: .ref a :: rest)) := by
  obtain ⟨T', h', X', e', W', st⟩ := putF X hx hZ hown (host := "") (Or.inl w) Via.refl eT F E L wi hty hn hf (g := mkF m pc Ls (v :: .ref a :: rest)) rfl rfl hd
  exact Go.st st (kk T' h' X' e' W')
theorem gPutFN (X : Stand p l e R s m args below meth c T locs cells slots) (hx : p.tables.exec = Jvm.exec) (hZ : Z.Warmed39 s.vm) {own O n d C : String} {index kq : Nat} {ty : FieldType} (hown : s.vm.findClass own = some m.cls) (w : (Cond.fieldLink own index O n d).before a0 Z = true) (eT : T.heap = h) {a : Addr} {v old : Value} (v' : Value) (F : Fld Z h a O n d old) (E : Exa Z h a C)
    (L : (Cond.lays C O n d).before a0 Z = true ∨ ((Cond.laysFinal C O n d).before a0 Z = true ∧ own = O ∧ meth.name = "<init>")) (wi : (Cond.instantiable C kq).before a0 Z = true) (hty : parseFieldDescriptor d = some ty) (hn : narrow ty v = v') (hf : fits ty v' = true) (hd : decode c.code pc = .ok (.putfield index, 3))
    (kk : ∀ T' h', Stand p l e R s m args below meth c T' (locs ++ [⟨a, Jvm.RoadKit.slotOf Z O n d⟩]) cells slots → T'.heap = h' → Wr h h' a (Jvm.RoadKit.slotOf Z O n d) v' → Go p e below s CC SS QQ T' (mkF m (pc + 3) Ls rest)) : Go p e below s CC SS QQ T (mkF m pc Ls (v :: .ref a :: rest)) := by
  obtain ⟨T', h', X', e', W', st⟩ := putFN X hx hZ hown w Via.refl eT F E L wi hty hn hf (g := mkF m pc Ls (v :: .ref a :: rest)) rfl rfl hd
  exact Go.st st (kk T' h' X' e' W')
theorem gNew (X : Stand p l e R s m args below meth c T locs cells slots) (hx : p.tables.exec = Jvm.exec) (hZ : Z.Warmed39 s.vm) {own C : String} {index n : Nat} (hown : s.vm.findClass own = some m.cls) (w : (Cond.classLink own index C).before a0 Z = true) (wi : (Cond.instantiable C n).before a0 Z = true) (wz : (Cond.initialized C).before a0 Z = true) (eT : T.heap = h)
    (hd : decode c.code pc = .ok (.new index, 3)) (hc : cells + 1 ≤ R.cells) (hl : slots + n ≤ R.slots)
    (kk : ∀ T' h' b, Stand p l e R s m args below meth c T' locs (cells + 1) (slots + n) → T'.heap = h' → Ext h h' → b = h.size → Exa Z h' b C → (∀ {O nm d : String} {ty : FieldType}, Laid Z a0 C O nm d → parseFieldDescriptor d = some ty → Fld Z h' b O nm d (defaultValue ty)) → Go p e below s CC SS QQ T' (mkF m (pc + 3) Ls (.ref b :: rest))) : Go p e below s CC SS QQ T (mkF m pc Ls rest) := by
  obtain ⟨T', h', X', e', E', A', D', -, st⟩ := newO X hx hZ hown w wi wz eT (g := mkF m pc Ls rest) rfl hd hc hl
  exact Go.st st (kk T' h' _ X' e' E' rfl A' D')
theorem gNewArr (X : Stand p l e R s m args below meth c T locs cells slots) (hx : p.tables.exec = Jvm.exec) (hZ : Z.Warmed39 s.vm) {aty : ArrayType} (w : (Cond.arrayClass (newarray.typeOf aty)).before a0 Z = true) (eT : T.heap = h) (hd : decode c.code pc = .ok (.newarray aty, 2)) {n : Int32} (hn : ¬ n < 0) {cap : Nat} (hcap : n.toNatClampNeg ≤ cap) (hb : cap * 8 ≤ 536870912) (hc : cells + 1 ≤ R.cells) (hl : slots + cap ≤ R.slots)
    (kk : ∀ T' h' b cA, Stand p l e R s m args below meth c T' locs (cells + 1) (slots + cap) → T'.heap = h' → Ext h h' → b = h.size → Arr Z h' b (newA cA (newarray.typeOf aty) n) (newarray.typeOf aty) → Go p e below s CC SS QQ T' (mkF m (pc + 2) Ls (.ref b :: rest))) : Go p e below s CC SS QQ T (mkF m pc Ls (.int n :: rest)) := by
  obtain ⟨T', h', cA, X', e', E', A', st⟩ := newP X hx hZ w eT (g := mkF m pc Ls (.int n :: rest)) rfl hd rfl hn (cap := cap) hcap hb hc hl
  exact Go.st st (kk T' h' _ cA X' e' E' rfl A')
/-- an array of ints (or of bytes): n places, the j-th holds f j -/
def IA (Z : State) (h : Heap) (a : Addr) (ty : FieldType) (n : Nat) (f : Nat → Int32) : Prop := ∃ cl : Cell, Arr Z h a cl ty ∧ cl.slots.size = n ∧ ∀ j, j < n → cl.slots[j]? = some (.int (f j))
def upd (f : Nat → Int32) (k : Nat) (v : Int32) : Nat → Int32 := fun j => if j = k then v else f j
theorem IA.lt {a : Addr} {ty : FieldType} {n : Nat} {f : Nat → Int32} (F : IA Z h a ty n f) : a < h.size := by obtain ⟨cl, A, -⟩ := F; exact A.lt
theorem IA.ext {h' : Heap} {a : Addr} {ty : FieldType} {n : Nat} {f : Nat → Int32} (F : IA Z h a ty n f) (E : Ext h h') : IA Z h' a ty n f := by obtain ⟨cl, A, r⟩ := F; exact ⟨cl, A.ext E, r⟩
theorem IA.other {h' : Heap} {a b : Addr} {sl : Nat} {v : Value} {ty : FieldType} {n : Nat} {f : Nat → Int32} (F : IA Z h a ty n f) (W : Wr h h' b sl v) (q : a ≠ b) : IA Z h' a ty n f := by obtain ⟨cl, A, r⟩ := F; exact ⟨cl, A.other W q, r⟩
theorem IA.keep {h' : Heap} {a : Addr} {ws : List Addr} {ty : FieldType} {n : Nat} {f : Nat → Int32} (F : IA Z h a ty n f) (K : Keep h h' ws) (q : a ∉ ws) : IA Z h' a ty n f := by
  obtain ⟨cl, A, r⟩ := F
  exact ⟨cl, ⟨K.2.1 a cl A.1 q, A.2⟩, r⟩
theorem IA.set {h' : Heap} {a : Addr} {k : Nat} {v : Int32} {ty : FieldType} {n : Nat} {f : Nat → Int32} (F : IA Z h a ty n f) (W : Wr h h' a k (.int v)) : IA Z h' a ty n (upd f k v) := by
  obtain ⟨cl, A, hs, hf⟩ := F
  refine ⟨_, A.same W, by rw [sz_set]; exact hs, fun j hj => ?_⟩
  show (cl.slots.setIfInBounds k (.int v))[j]? = _
  rw [Array.getElem?_setIfInBounds]
  by_cases q : k = j
  · subst q
    rw [if_pos rfl, if_pos (by rw [hs]; exact hj)]
    simp [upd]
  · rw [if_neg q, hf j hj]
    show _ = some (Value.int (if j = k then v else f j))
    rw [if_neg fun z => q z.symm]
theorem IA.congr {a : Addr} {ty : FieldType} {n : Nat} {f g : Nat → Int32} (F : IA Z h a ty n f) (q : ∀ j, j < n → f j = g j) : IA Z h a ty n g := by
  obtain ⟨cl, A, hs, hf⟩ := F
  exact ⟨cl, A, hs, fun j hj => by rw [hf j hj, q j hj]⟩
theorem IA.new {a : Addr} {cA : ClassId} {ty : FieldType} {z : Int32} (hty : defaultValue ty = .int 0) (A : Arr Z h a (newA cA ty z) ty) : IA Z h a ty z.toNatClampNeg (fun _ => 0) := by
  refine ⟨_, A, sz_new _ _ _, fun j hj => ?_⟩
  simp [newA, hj, hty]
theorem gIaload (X : Stand p l e R s m args below meth c T locs cells slots) (hx : p.tables.exec = Jvm.exec) (hZ : Z.Warmed39 s.vm) (eT : T.heap = h) {a : Addr} {n : Nat} {f : Nat → Int32} (F : IA Z h a .int n f) {j : Int32} (hj : ¬ j < 0 ∧ j.toNatClampNeg < n) (hd : decode c.code pc = .ok (.iaload, 1))
    (kk : Go p e below s CC SS QQ T (mkF m (pc + 1) Ls (.int (f j.toNatClampNeg) :: rest))) : Go p e below s CC SS QQ T (mkF m pc Ls (.int j :: .ref a :: rest)) := by
  obtain ⟨cl, A, hs, hf⟩ := F
  exact Go.st (X.iaload hx (j := j) (v := .int (f j.toNatClampNeg)) (by rw [eT]; exact A.1) (State.isArrayOf_alike hZ.alike A.2.1) A.2.2 (fun q => q.elim hj.1 fun r => absurd hj.2 (Nat.not_lt.mpr (hs ▸ r))) (hf _ hj.2) (g := mkF m pc Ls (.int j :: .ref a :: rest)) rfl rfl hd) kk
theorem gBaload (X : Stand p l e R s m args below meth c T locs cells slots) (hx : p.tables.exec = Jvm.exec) (hZ : Z.Warmed39 s.vm) (eT : T.heap = h) {a : Addr} {n : Nat} {f : Nat → Int32} (F : IA Z h a .byte n f) {j : Int32} (hj : ¬ j < 0 ∧ j.toNatClampNeg < n) (hd : decode c.code pc = .ok (.baload, 1))
    (kk : Go p e below s CC SS QQ T (mkF m (pc + 1) Ls (.int (f j.toNatClampNeg) :: rest))) : Go p e below s CC SS QQ T (mkF m pc Ls (.int j :: .ref a :: rest)) := by
  obtain ⟨cl, A, hs, hf⟩ := F
  exact Go.st (X.baloadBytes hx (j := j) (v := .int (f j.toNatClampNeg)) (by rw [eT]; exact A.1) (State.isArrayOf_alike hZ.alike A.2.1) A.2.2 (fun q => q.elim hj.1 fun r => absurd hj.2 (Nat.not_lt.mpr (hs ▸ r))) (hf _ hj.2) (g := mkF m pc Ls (.int j :: .ref a :: rest)) rfl rfl hd) kk
theorem gIastore (X : Stand p l e R s m args below meth c T locs cells slots) (hx : p.tables.exec = Jvm.exec) (hZ : Z.Warmed39 s.vm) (eT : T.heap = h) {a : Addr} {n : Nat} {f : Nat → Int32} (F : IA Z h a .int n f) {j x : Int32} (k : Nat) (hk : j.toNatClampNeg = k) (hj : ¬ j < 0 ∧ k < n) (hd : decode c.code pc = .ok (.iastore, 1))
    (kk : ∀ T' h', Stand p l e R s m args below meth c T' (locs ++ [⟨a, k⟩]) cells slots → T'.heap = h' → Wr h h' a k (.int x) → IA Z h' a .int n (upd f k x) → Go p e below s CC SS QQ T' (mkF m (pc + 1) Ls rest)) : Go p e below s CC SS QQ T (mkF m pc Ls (.int x :: .int j :: .ref a :: rest)) := by
  subst hk
  obtain ⟨cl, A, hs, hf⟩ := id F
  obtain ⟨T', h', X', e', W', st⟩ := stI X hx hZ eT A (j := j) (x := x) (fun q => q.elim hj.1 fun r => absurd hj.2 (Nat.not_lt.mpr (hs ▸ r))) (g := mkF m pc Ls (.int x :: .int j :: .ref a :: rest)) rfl rfl hd
  exact Go.st st (kk T' h' X' e' W' (F.set W'))
theorem gBastore (X : Stand p l e R s m args below meth c T locs cells slots) (hx : p.tables.exec = Jvm.exec) (hZ : Z.Warmed39 s.vm) (eT : T.heap = h) {a : Addr} {n : Nat} {f : Nat → Int32} (F : IA Z h a .byte n f) {j x : Int32} (k : Nat) (hk : j.toNatClampNeg = k) (hj : ¬ j < 0 ∧ k < n) (hd : decode c.code pc = .ok (.bastore, 1))
    (kk : ∀ T' h', Stand p l e R s m args below meth c T' (locs ++ [⟨a, k⟩]) cells slots → T'.heap = h' → Wr h h' a k (.int (nar .byte x)) → IA Z h' a .byte n (upd f k (nar .byte x)) → Go p e below s CC SS QQ T' (mkF m (pc + 1) Ls rest)) : Go p e below s CC SS QQ T (mkF m pc Ls (.int x :: .int j :: .ref a :: rest)) := by
  subst hk
  obtain ⟨cl, A, hs, hf⟩ := id F
  obtain ⟨T', h', X', e', W', st⟩ := stB X hx hZ eT A (j := j) (x := x) (fun q => q.elim hj.1 fun r => absurd hj.2 (Nat.not_lt.mpr (hs ▸ r))) (g := mkF m pc Ls (.int x :: .int j :: .ref a :: rest)) rfl rfl hd
  exact Go.st st (kk T' h' X' e' W' (F.set W'))
theorem gLength (X : Stand p l e R s m args below meth c T locs cells slots) (hx : p.tables.exec = Jvm.exec) (hZ : Z.Warmed39 s.vm) (eT : T.heap = h) {a : Addr} {ty : FieldType} {n : Nat} {f : Nat → Int32} (F : IA Z h a ty n f) (hd : decode c.code pc = .ok (.arraylength, 1))
    (kk : Go p e below s CC SS QQ T (mkF m (pc + 1) Ls (.int n.toInt32 :: rest))) : Go p e below s CC SS QQ T (mkF m pc Ls (.ref a :: rest)) := by
  obtain ⟨cl, A, hs, hf⟩ := F
  subst hs
  exact Go.st (X.arraylength hx (by rw [eT]; exact A.1) (State.isArrayOf_alike hZ.alike A.2.1) (g := mkF m pc Ls (.ref a :: rest)) rfl rfl hd) kk
theorem own_nb (x : Int32) : nar .byte x.toInt8.toInt32 = x.toInt8.toInt32 := by simp [nar]
theorem own_nz {b : Int32} (h : b = 0 ∨ b = 1) : narrow .boolean (.int b) = .int b := by rcases h with rfl | rfl <;> rfl
theorem own_fz {b : Int32} (h : b = 0 ∨ b = 1) : fits .boolean (.int b) = true := by rcases h with rfl | rfl <;> rfl
end OwnKit
theorem tw {a0 : Array Value} {Z : State} (hw : ∀ d ∈ tables_1, d.before a0 Z = true) (k : Nat) {d : Jvm.Cond} (h : tables_1[k]? = some d) : d.before a0 Z = true := hw _ (List.mem_of_getElem? h)
theorem d0_0 : decode method_2_code 0 = .ok (.iload_n 0, 1) := by decide +kernel
theorem d0_1 : decode method_2_code 1 = .ok (.iconst 3, 1) := by decide +kernel
theorem d0_2 : decode method_2_code 2 = .ok (.iand, 1) := by decide +kernel
theorem d0_3 : decode method_2_code 3 = .ok (.istore_n 1, 1) := by decide +kernel
theorem d0_4 : decode method_2_code 4 = .ok (.iload_n 1, 1) := by decide +kernel
theorem d0_5 : decode method_2_code 5 = .ok (.ifCond .ne 6, 3) := by decide +kernel
theorem d0_8 : decode method_2_code 8 = .ok (.bipush 13, 2) := by decide +kernel
theorem d0_10 : decode method_2_code 10 = .ok (.ireturn, 1) := by decide +kernel
theorem d0_11 : decode method_2_code 11 = .ok (.iload_n 1, 1) := by decide +kernel
theorem d0_12 : decode method_2_code 12 = .ok (.iconst 1, 1) := by decide +kernel
theorem d0_13 : decode method_2_code 13 = .ok (.if_icmp .ne 6, 3) := by decide +kernel
theorem d0_16 : decode method_2_code 16 = .ok (.bipush 10, 2) := by decide +kernel
theorem d0_18 : decode method_2_code 18 = .ok (.ireturn, 1) := by decide +kernel
theorem d0_19 : decode method_2_code 19 = .ok (.iload_n 1, 1) := by decide +kernel
theorem d0_20 : decode method_2_code 20 = .ok (.iconst 2, 1) := by decide +kernel
theorem d0_21 : decode method_2_code 21 = .ok (.if_icmp .ne 7, 3) := by decide +kernel
theorem d0_24 : decode method_2_code 24 = .ok (.iload_n 0, 1) := by decide +kernel
theorem d0_25 : decode method_2_code 25 = .ok (.iconst 2, 1) := by decide +kernel
theorem d0_26 : decode method_2_code 26 = .ok (.ishr, 1) := by decide +kernel
theorem d0_27 : decode method_2_code 27 = .ok (.ireturn, 1) := by decide +kernel
theorem d0_28 : decode method_2_code 28 = .ok (.iload_n 0, 1) := by decide +kernel
theorem d0_29 : decode method_2_code 29 = .ok (.iconst 2, 1) := by decide +kernel
theorem d0_30 : decode method_2_code 30 = .ok (.iushr, 1) := by decide +kernel
theorem d0_31 : decode method_2_code 31 = .ok (.ldc 7, 2) := by decide +kernel
theorem d0_33 : decode method_2_code 33 = .ok (.iand, 1) := by decide +kernel
theorem d0_34 : decode method_2_code 34 = .ok (.ireturn, 1) := by decide +kernel
theorem own_pn0 : plainFor (⟨"com/example/renkei/renkei/reader/LineCountTake326PinLaw", "unit", "(I)I"⟩ : MethodName) = true := plainFor_of_name (by first | (simp [plainName, overriddenIn]; done) | decide +kernel)
theorem own_ef0 (p0 : Int32) (m : MethodId) : entryFrame m #[(.int p0)] 2 = mkF m 0 #[.val (.int p0), .unset] [] := by first | (simp [entryFrame, mkF, argsToLocals, Value.category]; done) | rfl
def own_unit (p0 : Int32) : Int32 := if (p0 &&& (3 : Int32)) = (0 : Int32) then (13 : Int32) else (if (p0 &&& (3 : Int32)) = (1 : Int32) then (10 : Int32) else (if (p0 &&& (3 : Int32)) = (2 : Int32) then (p0 >>> ((2 : Int32) &&& 31)) else ((XT.ushr p0 (2 : Int32)) &&& (65535 : Int32))))
theorem own_pd0 : parseMethodDescriptor "(I)I" = some ⟨[.int], some .int⟩ := by decide +kernel
set_option maxRecDepth 65536 in
set_option maxHeartbeats 40000000 in
theorem own_rm0 (l : Launch) (Z : State) (a0 : Array Value) (hw : ∀ d ∈ tables_1, d.before a0 Z = true) (p0 : Int32) (h0 : Heap) (n0 : Nat) (Z0 : n0 ≤ h0.size)  :
    Met l Z (⟨"com/example/renkei/renkei/reader/LineCountTake326PinLaw", "unit", "(I)I"⟩ : MethodName) method_2_code 2 (some .int) [] ({ frames := 0, cells := 0, slots := 0, locals := 0 } : Room) #[(.int p0)] h0 (fun v h L => v = some (.int (own_unit p0)) ∧ Fr n0 L ∧ h = h0) := by
  refine met_of (Ls := #[.val (.int p0), .unset]) own_pn0 (own_ef0 p0) ?_
  intro p e s m below meth c s₁ hx hby hml hown hnm hret hlk hZ X0 e0
  have N0 := Fr.nil n0
  have hq : own_unit p0 = (if (p0 &&& (3 : Int32)) = (0 : Int32) then (13 : Int32) else (if (p0 &&& (3 : Int32)) = (1 : Int32) then (10 : Int32) else (if (p0 &&& (3 : Int32)) = (2 : Int32) then (p0 >>> ((2 : Int32) &&& 31)) else ((XT.ushr p0 (2 : Int32)) &&& (65535 : Int32))))) := rfl
  refine gIloadN X0 hx (hb hby d0_0) rfl ?_
  refine gIconst X0 hx (3 : Int32) (hb hby d0_1) rfl ?_
  refine gIand X0 hx (hb hby d0_2) ?_
  refine gIstoreN X0 hx #[.val (.int p0), .val (.int (p0 &&& (3 : Int32)))] (hb hby d0_3) rfl ?_
  refine gIloadN X0 hx (hb hby d0_4) rfl ?_
  refine gIf X0 hx 11 (hb hby d0_5) (by decide) (by decide) (fun hT => ?_) (fun hT => ?_)
  · have hc1 := o_neT hT
    have q2 := hq.trans (if_neg hc1)
    show Go _ _ _ _ _ _ _ s₁ (mkF m 11 #[.val (.int p0), .val (.int (p0 &&& (3 : Int32)))] [])
    refine gIloadN X0 hx (hb hby d0_11) rfl ?_
    refine gIconst X0 hx (1 : Int32) (hb hby d0_12) rfl ?_
    refine gIcmp X0 hx 19 (hb hby d0_13) (by decide) (by decide) (fun hT => ?_) (fun hT => ?_)
    · have hc3 := o_neT hT
      have q4 := q2.trans (if_neg hc3)
      show Go _ _ _ _ _ _ _ s₁ (mkF m 19 #[.val (.int p0), .val (.int (p0 &&& (3 : Int32)))] [])
      refine gIloadN X0 hx (hb hby d0_19) rfl ?_
      refine gIconst X0 hx (2 : Int32) (hb hby d0_20) rfl ?_
      refine gIcmp X0 hx 28 (hb hby d0_21) (by decide) (by decide) (fun hT => ?_) (fun hT => ?_)
      · have hc5 := o_neT hT
        have q6 := q4.trans (if_neg hc5)
        show Go _ _ _ _ _ _ _ s₁ (mkF m 28 #[.val (.int p0), .val (.int (p0 &&& (3 : Int32)))] [])
        refine gIloadN X0 hx (hb hby d0_28) rfl ?_
        refine gIconst X0 hx (2 : Int32) (hb hby d0_29) rfl ?_
        refine gIushr X0 hx (hb hby d0_30) ?_
        refine gLdc X0 hx hZ (65535 : Int32) hown (tw hw 4 rfl) (hb hby d0_31) ?_
        refine gIand X0 hx (hb hby d0_33) ?_
        exact gRetI X0 hx hlk hret (hb hby d0_34) (by decide) (by decide) ⟨congrArg (fun z => some (Value.int z)) q6.symm, N0, e0⟩
      · have hc5 := o_neF hT
        have q7 := q4.trans (if_pos hc5)
        show Go _ _ _ _ _ _ _ s₁ (mkF m 24 #[.val (.int p0), .val (.int (p0 &&& (3 : Int32)))] [])
        refine gIloadN X0 hx (hb hby d0_24) rfl ?_
        refine gIconst X0 hx (2 : Int32) (hb hby d0_25) rfl ?_
        refine gIshr X0 hx (hb hby d0_26) ?_
        exact gRetI X0 hx hlk hret (hb hby d0_27) (by decide) (by decide) ⟨congrArg (fun z => some (Value.int z)) q7.symm, N0, e0⟩
    · have hc3 := o_neF hT
      have q8 := q2.trans (if_pos hc3)
      show Go _ _ _ _ _ _ _ s₁ (mkF m 16 #[.val (.int p0), .val (.int (p0 &&& (3 : Int32)))] [])
      refine gBipush X0 hx (10 : Int32) (hb hby d0_16) rfl ?_
      exact gRetI X0 hx hlk hret (hb hby d0_18) (by decide) (by decide) ⟨congrArg (fun z => some (Value.int z)) q8.symm, N0, e0⟩
  · have hc1 := o_neF hT
    have q9 := hq.trans (if_pos hc1)
    show Go _ _ _ _ _ _ _ s₁ (mkF m 8 #[.val (.int p0), .val (.int (p0 &&& (3 : Int32)))] [])
    refine gBipush X0 hx (13 : Int32) (hb hby d0_8) rfl ?_
    exact gRetI X0 hx hlk hret (hb hby d0_10) (by decide) (by decide) ⟨congrArg (fun z => some (Value.int z)) q9.symm, N0, e0⟩
theorem d1_0 : decode method_3_code 0 = .ok (.iload_n 0, 1) := by decide +kernel
theorem d1_1 : decode method_3_code 1 = .ok (.bipush 13, 2) := by decide +kernel
theorem d1_3 : decode method_3_code 3 = .ok (.if_icmp .ne 7, 3) := by decide +kernel
theorem d1_6 : decode method_3_code 6 = .ok (.iconst 1, 1) := by decide +kernel
theorem d1_7 : decode method_3_code 7 = .ok (.goto 4, 3) := by decide +kernel
theorem d1_10 : decode method_3_code 10 = .ok (.iconst 0, 1) := by decide +kernel
theorem d1_11 : decode method_3_code 11 = .ok (.ireturn, 1) := by decide +kernel
theorem own_pn1 : plainFor (⟨"com/example/renkei/renkei/reader/LineCountTake326PinLaw", "cr", "(I)I"⟩ : MethodName) = true := plainFor_of_name (by first | (simp [plainName, overriddenIn]; done) | decide +kernel)
theorem own_ef1 (p0 : Int32) (m : MethodId) : entryFrame m #[(.int p0)] 1 = mkF m 0 #[.val (.int p0)] [] := by first | (simp [entryFrame, mkF, argsToLocals, Value.category]; done) | rfl
def own_cr (p0 : Int32) : Int32 := if p0 = (13 : Int32) then (1 : Int32) else (0 : Int32)
set_option maxRecDepth 65536 in
set_option maxHeartbeats 40000000 in
theorem own_rm1 (l : Launch) (Z : State) (a0 : Array Value) (hw : ∀ d ∈ tables_1, d.before a0 Z = true) (p0 : Int32) (h0 : Heap) (n0 : Nat) (Z0 : n0 ≤ h0.size)  :
    Met l Z (⟨"com/example/renkei/renkei/reader/LineCountTake326PinLaw", "cr", "(I)I"⟩ : MethodName) method_3_code 1 (some .int) [] ({ frames := 0, cells := 0, slots := 0, locals := 0 } : Room) #[(.int p0)] h0 (fun v h L => v = some (.int (own_cr p0)) ∧ Fr n0 L ∧ h = h0) := by
  refine met_of (Ls := #[.val (.int p0)]) own_pn1 (own_ef1 p0) ?_
  intro p e s m below meth c s₁ hx hby hml hown hnm hret hlk hZ X0 e0
  have N0 := Fr.nil n0
  have hq : own_cr p0 = (if p0 = (13 : Int32) then (1 : Int32) else (0 : Int32)) := rfl
  refine gIloadN X0 hx (hb hby d1_0) rfl ?_
  refine gBipush X0 hx (13 : Int32) (hb hby d1_1) rfl ?_
  refine gIcmp X0 hx 10 (hb hby d1_3) (by decide) (by decide) (fun hT => ?_) (fun hT => ?_)
  · have hc1 := o_neT hT
    have q2 := hq.trans (if_neg hc1)
    show Go _ _ _ _ _ _ _ s₁ (mkF m 10 #[.val (.int p0)] [])
    refine gIconst X0 hx (0 : Int32) (hb hby d1_10) rfl ?_
    exact gRetI X0 hx hlk hret (hb hby d1_11) (by decide) (by decide) ⟨congrArg (fun z => some (Value.int z)) q2.symm, N0, e0⟩
  · have hc1 := o_neF hT
    have q3 := hq.trans (if_pos hc1)
    show Go _ _ _ _ _ _ _ s₁ (mkF m 6 #[.val (.int p0)] [])
    refine gIconst X0 hx (1 : Int32) (hb hby d1_6) rfl ?_
    refine gGoto X0 hx 11 (hb hby d1_7) (by decide) (by decide) ?_
    exact gRetI X0 hx hlk hret (hb hby d1_11) (by decide) (by decide) ⟨congrArg (fun z => some (Value.int z)) q3.symm, N0, e0⟩
theorem d2_0 : decode method_4_code 0 = .ok (.iload_n 0, 1) := by decide +kernel
theorem d2_1 : decode method_4_code 1 = .ok (.bipush 10, 2) := by decide +kernel
theorem d2_3 : decode method_4_code 3 = .ok (.if_icmp .ne 7, 3) := by decide +kernel
theorem d2_6 : decode method_4_code 6 = .ok (.iconst 1, 1) := by decide +kernel
theorem d2_7 : decode method_4_code 7 = .ok (.goto 4, 3) := by decide +kernel
theorem d2_10 : decode method_4_code 10 = .ok (.iconst 0, 1) := by decide +kernel
theorem d2_11 : decode method_4_code 11 = .ok (.ireturn, 1) := by decide +kernel
theorem own_pn2 : plainFor (⟨"com/example/renkei/renkei/reader/LineCountTake326PinLaw", "lf", "(I)I"⟩ : MethodName) = true := plainFor_of_name (by first | (simp [plainName, overriddenIn]; done) | decide +kernel)
theorem own_ef2 (p0 : Int32) (m : MethodId) : entryFrame m #[(.int p0)] 1 = mkF m 0 #[.val (.int p0)] [] := by first | (simp [entryFrame, mkF, argsToLocals, Value.category]; done) | rfl
def own_lf (p0 : Int32) : Int32 := if p0 = (10 : Int32) then (1 : Int32) else (0 : Int32)
set_option maxRecDepth 65536 in
set_option maxHeartbeats 40000000 in
theorem own_rm2 (l : Launch) (Z : State) (a0 : Array Value) (hw : ∀ d ∈ tables_1, d.before a0 Z = true) (p0 : Int32) (h0 : Heap) (n0 : Nat) (Z0 : n0 ≤ h0.size)  :
    Met l Z (⟨"com/example/renkei/renkei/reader/LineCountTake326PinLaw", "lf", "(I)I"⟩ : MethodName) method_4_code 1 (some .int) [] ({ frames := 0, cells := 0, slots := 0, locals := 0 } : Room) #[(.int p0)] h0 (fun v h L => v = some (.int (own_lf p0)) ∧ Fr n0 L ∧ h = h0) := by
  refine met_of (Ls := #[.val (.int p0)]) own_pn2 (own_ef2 p0) ?_
  intro p e s m below meth c s₁ hx hby hml hown hnm hret hlk hZ X0 e0
  have N0 := Fr.nil n0
  have hq : own_lf p0 = (if p0 = (10 : Int32) then (1 : Int32) else (0 : Int32)) := rfl
  refine gIloadN X0 hx (hb hby d2_0) rfl ?_
  refine gBipush X0 hx (10 : Int32) (hb hby d2_1) rfl ?_
  refine gIcmp X0 hx 10 (hb hby d2_3) (by decide) (by decide) (fun hT => ?_) (fun hT => ?_)
  · have hc1 := o_neT hT
    have q2 := hq.trans (if_neg hc1)
    show Go _ _ _ _ _ _ _ s₁ (mkF m 10 #[.val (.int p0)] [])
    refine gIconst X0 hx (0 : Int32) (hb hby d2_10) rfl ?_
    exact gRetI X0 hx hlk hret (hb hby d2_11) (by decide) (by decide) ⟨congrArg (fun z => some (Value.int z)) q2.symm, N0, e0⟩
  · have hc1 := o_neF hT
    have q3 := hq.trans (if_pos hc1)
    show Go _ _ _ _ _ _ _ s₁ (mkF m 6 #[.val (.int p0)] [])
    refine gIconst X0 hx (1 : Int32) (hb hby d2_6) rfl ?_
    refine gGoto X0 hx 11 (hb hby d2_7) (by decide) (by decide) ?_
    exact gRetI X0 hx hlk hret (hb hby d2_11) (by decide) (by decide) ⟨congrArg (fun z => some (Value.int z)) q3.symm, N0, e0⟩
theorem d3_0 : decode method_5_code 0 = .ok (.iload_n 0, 1) := by decide +kernel
theorem d3_1 : decode method_5_code 1 = .ok (.bipush 13, 2) := by decide +kernel
theorem d3_3 : decode method_5_code 3 = .ok (.if_icmp .ne 13, 3) := by decide +kernel
theorem d3_6 : decode method_5_code 6 = .ok (.iload_n 1, 1) := by decide +kernel
theorem d3_7 : decode method_5_code 7 = .ok (.bipush 10, 2) := by decide +kernel
theorem d3_9 : decode method_5_code 9 = .ok (.if_icmp .ne 7, 3) := by decide +kernel
theorem d3_12 : decode method_5_code 12 = .ok (.iconst 1, 1) := by decide +kernel
theorem d3_13 : decode method_5_code 13 = .ok (.goto 4, 3) := by decide +kernel
theorem d3_16 : decode method_5_code 16 = .ok (.iconst 0, 1) := by decide +kernel
theorem d3_17 : decode method_5_code 17 = .ok (.ireturn, 1) := by decide +kernel
theorem own_pn3 : plainFor (⟨"com/example/renkei/renkei/reader/LineCountTake326PinLaw", "pair", "(II)I"⟩ : MethodName) = true := plainFor_of_name (by first | (simp [plainName, overriddenIn]; done) | decide +kernel)
theorem own_ef3 (p0 : Int32) (p1 : Int32) (m : MethodId) : entryFrame m #[(.int p0), (.int p1)] 2 = mkF m 0 #[.val (.int p0), .val (.int p1)] [] := by first | (simp [entryFrame, mkF, argsToLocals, Value.category]; done) | rfl
def own_pair_16 (i0 : Int32) (i1 : Int32) : Int32 := (0 : Int32)
def own_pair (p0 : Int32) (p1 : Int32) : Int32 := if p0 = (13 : Int32) then (if p1 = (10 : Int32) then (1 : Int32) else (own_pair_16 p0 p1)) else (own_pair_16 p0 p1)
theorem own_pd1 : parseMethodDescriptor "(II)I" = some ⟨[.int, .int], some .int⟩ := by decide +kernel
set_option maxRecDepth 65536 in
set_option maxHeartbeats 40000000 in
theorem own_rm3 (l : Launch) (Z : State) (a0 : Array Value) (hw : ∀ d ∈ tables_1, d.before a0 Z = true) (p0 : Int32) (p1 : Int32) (h0 : Heap) (n0 : Nat) (Z0 : n0 ≤ h0.size)  :
    Met l Z (⟨"com/example/renkei/renkei/reader/LineCountTake326PinLaw", "pair", "(II)I"⟩ : MethodName) method_5_code 2 (some .int) [] ({ frames := 0, cells := 0, slots := 0, locals := 0 } : Room) #[(.int p0), (.int p1)] h0 (fun v h L => v = some (.int (own_pair p0 p1)) ∧ Fr n0 L ∧ h = h0) := by
  refine met_of (Ls := #[.val (.int p0), .val (.int p1)]) own_pn3 (own_ef3 p0 p1) ?_
  intro p e s m below meth c s₁ hx hby hml hown hnm hret hlk hZ X0 e0
  have N0 := Fr.nil n0
  have B16 : ∀ i0 i1 : Int32, own_pair p0 p1 = own_pair_16 i0 i1 → Go p e below s ({ frames := 0, cells := 0, slots := 0, locals := 0 } : Room).cells ({ frames := 0, cells := 0, slots := 0, locals := 0 } : Room).slots (fun v h L => v = some (.int (own_pair p0 p1)) ∧ Fr n0 L ∧ h = h0) s₁ (mkF m 16 #[.val (.int i0), .val (.int i1)] []) := by
    intro i0 i1 hq
    replace hq : own_pair p0 p1 = ((0 : Int32)) := hq
    refine gIconst X0 hx (0 : Int32) (hb hby d3_16) rfl ?_
    exact gRetI X0 hx hlk hret (hb hby d3_17) (by decide) (by decide) ⟨congrArg (fun z => some (Value.int z)) hq.symm, N0, e0⟩
  have hq : own_pair p0 p1 = (if p0 = (13 : Int32) then (if p1 = (10 : Int32) then (1 : Int32) else (own_pair_16 p0 p1)) else (own_pair_16 p0 p1)) := rfl
  refine gIloadN X0 hx (hb hby d3_0) rfl ?_
  refine gBipush X0 hx (13 : Int32) (hb hby d3_1) rfl ?_
  refine gIcmp X0 hx 16 (hb hby d3_3) (by decide) (by decide) (fun hT => ?_) (fun hT => ?_)
  · have hc1 := o_neT hT
    have q2 := hq.trans (if_neg hc1)
    show Go _ _ _ _ _ _ _ s₁ (mkF m 16 #[.val (.int p0), .val (.int p1)] [])
    exact B16 p0 p1 q2
  · have hc1 := o_neF hT
    have q3 := hq.trans (if_pos hc1)
    show Go _ _ _ _ _ _ _ s₁ (mkF m 6 #[.val (.int p0), .val (.int p1)] [])
    refine gIloadN X0 hx (hb hby d3_6) rfl ?_
    refine gBipush X0 hx (10 : Int32) (hb hby d3_7) rfl ?_
    refine gIcmp X0 hx 16 (hb hby d3_9) (by decide) (by decide) (fun hT => ?_) (fun hT => ?_)
    · have hc4 := o_neT hT
      have q5 := q3.trans (if_neg hc4)
      show Go _ _ _ _ _ _ _ s₁ (mkF m 16 #[.val (.int p0), .val (.int p1)] [])
      exact B16 p0 p1 q5
    · have hc4 := o_neF hT
      have q6 := q3.trans (if_pos hc4)
      show Go _ _ _ _ _ _ _ s₁ (mkF m 12 #[.val (.int p0), .val (.int p1)] [])
      refine gIconst X0 hx (1 : Int32) (hb hby d3_12) rfl ?_
      refine gGoto X0 hx 17 (hb hby d3_13) (by decide) (by decide) ?_
      exact gRetI X0 hx hlk hret (hb hby d3_17) (by decide) (by decide) ⟨congrArg (fun z => some (Value.int z)) q6.symm, N0, e0⟩
def own_tl (u ln b : Int32) : Int32 := if u = (13 : Int32) then ln + (1 : Int32) else if u = (10 : Int32) then (if b = (0 : Int32) then ln + (1 : Int32) else ln) else ln
def own_tb (u : Int32) : Int32 := if u = (13 : Int32) then (1 : Int32) else (0 : Int32)
theorem d4_0 : decode prog_83_method_1_code 0 = .ok (.aload_n 0, 1) := by decide +kernel
theorem d4_1 : decode prog_83_method_1_code 1 = .ok (.invokespecial 1, 3) := by decide +kernel
theorem d4_4 : decode prog_83_method_1_code 4 = .ok (.aload_n 0, 1) := by decide +kernel
theorem d4_5 : decode prog_83_method_1_code 5 = .ok (.iconst 1, 1) := by decide +kernel
theorem d4_6 : decode prog_83_method_1_code 6 = .ok (.putfield 7, 3) := by decide +kernel
theorem d4_9 : decode prog_83_method_1_code 9 = .ok (.return_, 1) := by decide +kernel
theorem own_pn4 : plainFor (⟨"com/example/renkei/renkei/reader/LineCount", "<init>", "()V"⟩ : MethodName) = true := plainFor_of_name (by first | (simp [plainName, overriddenIn]; done) | decide +kernel)
theorem own_ef4 (r0 : Addr) (m : MethodId) : entryFrame m #[(.ref r0)] 1 = mkF m 0 #[.val (.ref r0)] [] := by first | (simp [entryFrame, mkF, argsToLocals, Value.category]; done) | rfl
theorem own_pd2 : parseMethodDescriptor "()V" = some ⟨[], none⟩ := by decide +kernel
set_option maxRecDepth 65536 in
set_option maxHeartbeats 40000000 in
theorem own_rm4 (l : Launch) (Z : State) (a0 : Array Value) (hw : ∀ d ∈ tables_1, d.before a0 Z = true) (r0 : Addr) (h0 : Heap) (n0 : Nat) (Z0 : n0 ≤ h0.size) (ln bb : Int32) (E0 : Exa Z h0 r0 "com/example/renkei/renkei/reader/LineCount") (F0 : Fld Z h0 r0 "com/example/renkei/renkei/reader/LineCount" "line" "I" (.int ln)) (G0 : Fld Z h0 r0 "com/example/renkei/renkei/reader/LineCount" "afterCarriageReturn" "Z" (.int bb)) (g0 : n0 ≤ r0) :
    Met l Z (⟨"com/example/renkei/renkei/reader/LineCount", "<init>", "()V"⟩ : MethodName) prog_83_method_1_code 1 none [] ({ frames := 1, cells := 0, slots := 0, locals := 12 } : Room) #[(.ref r0)] h0 (fun v h L => v = none ∧ Fr n0 L ∧ Keep h0 h [r0] ∧ Exa Z h r0 "com/example/renkei/renkei/reader/LineCount" ∧ Fld Z h r0 "com/example/renkei/renkei/reader/LineCount" "line" "I" (.int (1 : Int32)) ∧ Fld Z h r0 "com/example/renkei/renkei/reader/LineCount" "afterCarriageReturn" "Z" (.int bb)) := by
  refine met_of (Ls := #[.val (.ref r0)]) own_pn4 (own_ef4 r0) ?_
  intro p e s m below meth c s₁ hx hby hml hown hnm hret hlk hZ X0 e0
  have N0 := Fr.nil n0
  refine gAloadN X0 hx (hb hby d4_0) rfl rfl ?_
  refine gObjInit X0 hx hZ hown (tw hw 11 rfl) (tw hw 12 rfl) (tw hw 13 rfl) e0 (by rw [hml]; rfl) (hb hby d4_1) (by decide) (W := 0) (Nat.le_of_eq rfl) (by decide) ?_
  intro T1 X1 e1
  show Go _ _ _ _ _ _ _ T1 (mkF m 4 #[.val (.ref r0)] [])
  refine gAloadN X1 hx (hb hby d4_4) rfl rfl ?_
  refine gIconst X1 hx (1 : Int32) (hb hby d4_5) rfl ?_
  refine gPutF X1 hx hZ hown (tw hw 14 rfl) e1 F0 E0 (Or.inl (tw hw 15 rfl)) (tw hw 6 rfl) (ty := .int) (by decide) rfl rfl (hb hby d4_6) ?_
  intro T2 h2 X2 e2 W2
  have F0__2 := F0.same W2
  have E0__2 := E0.wr W2
  have G0__2 := G0.other W2 (Or.inr (slot_ne (Or.inl (tw hw 22 rfl)) (Or.inl (tw hw 15 rfl)) (by decide) (t := .boolean) (t' := .int) (by decide) (by decide)))
  have Z_2 := Nat.le_trans Z0 (Nat.le_of_eq W2.size.symm)
  have K_2 : Keep h0 h2 [r0] := (Keep.refl h0 [r0]).wr W2 (Or.inl (List.mem_of_getElem? (i := 0) rfl))
  have N_2 := Fr.snoc X2 N0 g0
  show Go _ _ _ _ _ _ _ T2 (mkF m 9 #[.val (.ref r0)] [])
  subst e2
  exact gRetV X2 hx hlk hret (hb hby d4_9) (by decide) (by decide) ⟨rfl, N_2, K_2, E0__2, F0__2, G0__2⟩
theorem d5_0 : decode prog_83_method_5_code 0 = .ok (.aload_n 0, 1) := by decide +kernel
theorem d5_1 : decode prog_83_method_5_code 1 = .ok (.iload_n 1, 1) := by decide +kernel
theorem d5_2 : decode prog_83_method_5_code 2 = .ok (.putfield 7, 3) := by decide +kernel
theorem d5_5 : decode prog_83_method_5_code 5 = .ok (.aload_n 0, 1) := by decide +kernel
theorem d5_6 : decode prog_83_method_5_code 6 = .ok (.iconst 0, 1) := by decide +kernel
theorem d5_7 : decode prog_83_method_5_code 7 = .ok (.putfield 13, 3) := by decide +kernel
theorem d5_10 : decode prog_83_method_5_code 10 = .ok (.return_, 1) := by decide +kernel
theorem own_pn5 : plainFor (⟨"com/example/renkei/renkei/reader/LineCount", "set", "(I)V"⟩ : MethodName) = true := plainFor_of_name (by first | (simp [plainName, overriddenIn]; done) | decide +kernel)
theorem own_ef5 (r0 : Addr) (p1 : Int32) (m : MethodId) : entryFrame m #[(.ref r0), (.int p1)] 2 = mkF m 0 #[.val (.ref r0), .val (.int p1)] [] := by first | (simp [entryFrame, mkF, argsToLocals, Value.category]; done) | rfl
theorem own_pd3 : parseMethodDescriptor "(I)V" = some ⟨[.int], none⟩ := by decide +kernel
set_option maxRecDepth 65536 in
set_option maxHeartbeats 40000000 in
theorem own_rm5 (l : Launch) (Z : State) (a0 : Array Value) (hw : ∀ d ∈ tables_1, d.before a0 Z = true) (r0 : Addr) (p1 : Int32) (h0 : Heap) (n0 : Nat) (Z0 : n0 ≤ h0.size) (ln bb : Int32) (E0 : Exa Z h0 r0 "com/example/renkei/renkei/reader/LineCount") (F0 : Fld Z h0 r0 "com/example/renkei/renkei/reader/LineCount" "line" "I" (.int ln)) (G0 : Fld Z h0 r0 "com/example/renkei/renkei/reader/LineCount" "afterCarriageReturn" "Z" (.int bb)) (g0 : n0 ≤ r0) :
    Met l Z (⟨"com/example/renkei/renkei/reader/LineCount", "set", "(I)V"⟩ : MethodName) prog_83_method_5_code 2 none [] ({ frames := 0, cells := 0, slots := 0, locals := 0 } : Room) #[(.ref r0), (.int p1)] h0 (fun v h L => v = none ∧ Fr n0 L ∧ Keep h0 h [r0] ∧ Exa Z h r0 "com/example/renkei/renkei/reader/LineCount" ∧ Fld Z h r0 "com/example/renkei/renkei/reader/LineCount" "line" "I" (.int p1) ∧ Fld Z h r0 "com/example/renkei/renkei/reader/LineCount" "afterCarriageReturn" "Z" (.int (0 : Int32))) := by
  refine met_of (Ls := #[.val (.ref r0), .val (.int p1)]) own_pn5 (own_ef5 r0 p1) ?_
  intro p e s m below meth c s₁ hx hby hml hown hnm hret hlk hZ X0 e0
  have N0 := Fr.nil n0
  refine gAloadN X0 hx (hb hby d5_0) rfl rfl ?_
  refine gIloadN X0 hx (hb hby d5_1) rfl ?_
  refine gPutF X0 hx hZ hown (tw hw 14 rfl) e0 F0 E0 (Or.inl (tw hw 15 rfl)) (tw hw 6 rfl) (ty := .int) (by decide) rfl rfl (hb hby d5_2) ?_
  intro T1 h1 X1 e1 W1
  have F0__1 := F0.same W1
  have E0__1 := E0.wr W1
  have G0__1 := G0.other W1 (Or.inr (slot_ne (Or.inl (tw hw 22 rfl)) (Or.inl (tw hw 15 rfl)) (by decide) (t := .boolean) (t' := .int) (by decide) (by decide)))
  have Z_1 := Nat.le_trans Z0 (Nat.le_of_eq W1.size.symm)
  have K_1 : Keep h0 h1 [r0] := (Keep.refl h0 [r0]).wr W1 (Or.inl (List.mem_of_getElem? (i := 0) rfl))
  have N_1 := Fr.snoc X1 N0 g0
  show Go _ _ _ _ _ _ _ T1 (mkF m 5 #[.val (.ref r0), .val (.int p1)] [])
  refine gAloadN X1 hx (hb hby d5_5) rfl rfl ?_
  refine gIconst X1 hx (0 : Int32) (hb hby d5_6) rfl ?_
  refine gPutFN X1 hx hZ hown (tw hw 21 rfl) e1 (.int (0 : Int32)) G0__1 E0__1 (Or.inl (tw hw 22 rfl)) (tw hw 6 rfl) (ty := .boolean) (by decide) rfl rfl (hb hby d5_7) ?_
  intro T2 h2 X2 e2 W2
  have G0__2 := G0__1.same W2
  have E0__2 := E0__1.wr W2
  have F0__2 := F0__1.other W2 (Or.inr (slot_ne (Or.inl (tw hw 15 rfl)) (Or.inl (tw hw 22 rfl)) (by decide) (t := .int) (t' := .boolean) (by decide) (by decide)))
  have Z_2 := Nat.le_trans Z_1 (Nat.le_of_eq W2.size.symm)
  have K_2 : Keep h0 h2 [r0] := K_1.wr W2 (Or.inl (List.mem_of_getElem? (i := 0) rfl))
  have N_2 := Fr.snoc X2 N_1 g0
  show Go _ _ _ _ _ _ _ T2 (mkF m 10 #[.val (.ref r0), .val (.int p1)] [])
  subst e2
  exact gRetV X2 hx hlk hret (hb hby d5_10) (by decide) (by decide) ⟨rfl, N_2, K_2, E0__2, F0__2, G0__2⟩
theorem d6_0 : decode prog_83_method_2_code 0 = .ok (.iload_n 1, 1) := by decide +kernel
theorem d6_1 : decode prog_83_method_2_code 1 = .ok (.bipush 13, 2) := by decide +kernel
theorem d6_3 : decode prog_83_method_2_code 3 = .ok (.if_icmp .eq 16, 3) := by decide +kernel
theorem d6_6 : decode prog_83_method_2_code 6 = .ok (.iload_n 1, 1) := by decide +kernel
theorem d6_7 : decode prog_83_method_2_code 7 = .ok (.bipush 10, 2) := by decide +kernel
theorem d6_9 : decode prog_83_method_2_code 9 = .ok (.if_icmp .ne 20, 3) := by decide +kernel
theorem d6_12 : decode prog_83_method_2_code 12 = .ok (.aload_n 0, 1) := by decide +kernel
theorem d6_13 : decode prog_83_method_2_code 13 = .ok (.getfield 13, 3) := by decide +kernel
theorem d6_16 : decode prog_83_method_2_code 16 = .ok (.ifCond .ne 13, 3) := by decide +kernel
theorem d6_19 : decode prog_83_method_2_code 19 = .ok (.aload_n 0, 1) := by decide +kernel
theorem d6_20 : decode prog_83_method_2_code 20 = .ok (.dup, 1) := by decide +kernel
theorem d6_21 : decode prog_83_method_2_code 21 = .ok (.getfield 7, 3) := by decide +kernel
theorem d6_24 : decode prog_83_method_2_code 24 = .ok (.iconst 1, 1) := by decide +kernel
theorem d6_25 : decode prog_83_method_2_code 25 = .ok (.iadd, 1) := by decide +kernel
theorem d6_26 : decode prog_83_method_2_code 26 = .ok (.putfield 7, 3) := by decide +kernel
theorem d6_29 : decode prog_83_method_2_code 29 = .ok (.aload_n 0, 1) := by decide +kernel
theorem d6_30 : decode prog_83_method_2_code 30 = .ok (.iload_n 1, 1) := by decide +kernel
theorem d6_31 : decode prog_83_method_2_code 31 = .ok (.bipush 13, 2) := by decide +kernel
theorem d6_33 : decode prog_83_method_2_code 33 = .ok (.if_icmp .ne 7, 3) := by decide +kernel
theorem d6_36 : decode prog_83_method_2_code 36 = .ok (.iconst 1, 1) := by decide +kernel
theorem d6_37 : decode prog_83_method_2_code 37 = .ok (.goto 4, 3) := by decide +kernel
theorem d6_40 : decode prog_83_method_2_code 40 = .ok (.iconst 0, 1) := by decide +kernel
theorem d6_41 : decode prog_83_method_2_code 41 = .ok (.putfield 13, 3) := by decide +kernel
theorem d6_44 : decode prog_83_method_2_code 44 = .ok (.return_, 1) := by decide +kernel
theorem own_pn6 : plainFor (⟨"com/example/renkei/renkei/reader/LineCount", "take", "(I)V"⟩ : MethodName) = true := plainFor_of_name (by first | (simp [plainName, overriddenIn]; done) | decide +kernel)
theorem own_ef6 (r0 : Addr) (p1 : Int32) (m : MethodId) : entryFrame m #[(.ref r0), (.int p1)] 2 = mkF m 0 #[.val (.ref r0), .val (.int p1)] [] := by first | (simp [entryFrame, mkF, argsToLocals, Value.category]; done) | rfl
set_option maxRecDepth 65536 in
set_option maxHeartbeats 40000000 in
theorem own_rm6 (l : Launch) (Z : State) (a0 : Array Value) (hw : ∀ d ∈ tables_1, d.before a0 Z = true) (r0 : Addr) (p1 : Int32) (h0 : Heap) (n0 : Nat) (Z0 : n0 ≤ h0.size) (ln bb : Int32) (E0 : Exa Z h0 r0 "com/example/renkei/renkei/reader/LineCount") (F0 : Fld Z h0 r0 "com/example/renkei/renkei/reader/LineCount" "line" "I" (.int ln)) (G0 : Fld Z h0 r0 "com/example/renkei/renkei/reader/LineCount" "afterCarriageReturn" "Z" (.int bb)) (g0 : n0 ≤ r0) :
    Met l Z (⟨"com/example/renkei/renkei/reader/LineCount", "take", "(I)V"⟩ : MethodName) prog_83_method_2_code 2 none [] ({ frames := 0, cells := 0, slots := 0, locals := 0 } : Room) #[(.ref r0), (.int p1)] h0 (fun v h L => v = none ∧ Fr n0 L ∧ Keep h0 h [r0] ∧ Exa Z h r0 "com/example/renkei/renkei/reader/LineCount" ∧ Fld Z h r0 "com/example/renkei/renkei/reader/LineCount" "line" "I" (.int (own_tl p1 ln bb)) ∧ Fld Z h r0 "com/example/renkei/renkei/reader/LineCount" "afterCarriageReturn" "Z" (.int (own_tb p1))) := by
  refine met_of (Ls := #[.val (.ref r0), .val (.int p1)]) own_pn6 (own_ef6 r0 p1) ?_
  intro p e s m below meth c s₁ hx hby hml hown hnm hret hlk hZ X0 e0
  have N0 := Fr.nil n0
  refine gIloadN X0 hx (hb hby d6_0) rfl ?_
  refine gBipush X0 hx (13 : Int32) (hb hby d6_1) rfl ?_
  refine gIcmp X0 hx 19 (hb hby d6_3) (by decide) (by decide) (fun hT => ?_) (fun hT => ?_)
  · have hc1 := o_eqT hT
    show Go _ _ _ _ _ _ _ s₁ (mkF m 19 #[.val (.ref r0), .val (.int p1)] [])
    refine gAloadN X0 hx (hb hby d6_19) rfl rfl ?_
    refine gDup X0 hx (hb hby d6_20) rfl ?_
    refine gGetF X0 hx hZ hown (tw hw 14 rfl) e0 F0 (hb hby d6_21) ?_
    intro T2 X2 e2
    show Go _ _ _ _ _ _ _ T2 (mkF m 24 #[.val (.ref r0), .val (.int p1)] [(.int ln), (.ref r0)])
    refine gIconst X2 hx (1 : Int32) (hb hby d6_24) rfl ?_
    refine gIadd X2 hx (hb hby d6_25) ?_
    refine gPutF X2 hx hZ hown (tw hw 14 rfl) e2 F0 E0 (Or.inl (tw hw 15 rfl)) (tw hw 6 rfl) (ty := .int) (by decide) rfl rfl (hb hby d6_26) ?_
    intro T3 h3 X3 e3 W3
    have F0__3 := F0.same W3
    have E0__3 := E0.wr W3
    have G0__3 := G0.other W3 (Or.inr (slot_ne (Or.inl (tw hw 22 rfl)) (Or.inl (tw hw 15 rfl)) (by decide) (t := .boolean) (t' := .int) (by decide) (by decide)))
    have Z_3 := Nat.le_trans Z0 (Nat.le_of_eq W3.size.symm)
    have K_3 : Keep h0 h3 [r0] := (Keep.refl h0 [r0]).wr W3 (Or.inl (List.mem_of_getElem? (i := 0) rfl))
    have N_3 := Fr.snoc X3 N0 g0
    show Go _ _ _ _ _ _ _ T3 (mkF m 29 #[.val (.ref r0), .val (.int p1)] [])
    refine gAloadN X3 hx (hb hby d6_29) rfl rfl ?_
    refine gIloadN X3 hx (hb hby d6_30) rfl ?_
    refine gBipush X3 hx (13 : Int32) (hb hby d6_31) rfl ?_
    refine gIcmp X3 hx 40 (hb hby d6_33) (by decide) (by decide) (fun q => absurd hc1 (o_neT q)) (fun _ => ?_)
    show Go _ _ _ _ _ _ _ T3 (mkF m 36 #[.val (.ref r0), .val (.int p1)] [(.ref r0)])
    refine gIconst X3 hx (1 : Int32) (hb hby d6_36) rfl ?_
    refine gGoto X3 hx 41 (hb hby d6_37) (by decide) (by decide) ?_
    refine gPutFN X3 hx hZ hown (tw hw 21 rfl) e3 (.int (1 : Int32)) G0__3 E0__3 (Or.inl (tw hw 22 rfl)) (tw hw 6 rfl) (ty := .boolean) (by decide) rfl rfl (hb hby d6_41) ?_
    intro T4 h4 X4 e4 W4
    have G0__4 := G0__3.same W4
    have E0__4 := E0__3.wr W4
    have F0__4 := F0__3.other W4 (Or.inr (slot_ne (Or.inl (tw hw 15 rfl)) (Or.inl (tw hw 22 rfl)) (by decide) (t := .int) (t' := .boolean) (by decide) (by decide)))
    have Z_4 := Nat.le_trans Z_3 (Nat.le_of_eq W4.size.symm)
    have K_4 : Keep h0 h4 [r0] := K_3.wr W4 (Or.inl (List.mem_of_getElem? (i := 0) rfl))
    have N_4 := Fr.snoc X4 N_3 g0
    show Go _ _ _ _ _ _ _ T4 (mkF m 44 #[.val (.ref r0), .val (.int p1)] [])
    subst e4
    exact gRetV X4 hx hlk hret (hb hby d6_44) (by decide) (by decide) ⟨rfl, N_4, K_4, E0__4, (by rw [show own_tl p1 ln bb = (ln + (1 : Int32)) from (if_pos hc1)]; exact F0__4), (by rw [show own_tb p1 = (1 : Int32) from (if_pos hc1)]; exact G0__4)⟩
  · have hc1 := o_eqF hT
    show Go _ _ _ _ _ _ _ s₁ (mkF m 6 #[.val (.ref r0), .val (.int p1)] [])
    refine gIloadN X0 hx (hb hby d6_6) rfl ?_
    refine gBipush X0 hx (10 : Int32) (hb hby d6_7) rfl ?_
    refine gIcmp X0 hx 29 (hb hby d6_9) (by decide) (by decide) (fun hT => ?_) (fun hT => ?_)
    · have hc5 := o_neT hT
      show Go _ _ _ _ _ _ _ s₁ (mkF m 29 #[.val (.ref r0), .val (.int p1)] [])
      refine gAloadN X0 hx (hb hby d6_29) rfl rfl ?_
      refine gIloadN X0 hx (hb hby d6_30) rfl ?_
      refine gBipush X0 hx (13 : Int32) (hb hby d6_31) rfl ?_
      refine gIcmp X0 hx 40 (hb hby d6_33) (by decide) (by decide) (fun _ => ?_) (fun q => absurd (o_neF q) hc1)
      show Go _ _ _ _ _ _ _ s₁ (mkF m 40 #[.val (.ref r0), .val (.int p1)] [(.ref r0)])
      refine gIconst X0 hx (0 : Int32) (hb hby d6_40) rfl ?_
      refine gPutFN X0 hx hZ hown (tw hw 21 rfl) e0 (.int (0 : Int32)) G0 E0 (Or.inl (tw hw 22 rfl)) (tw hw 6 rfl) (ty := .boolean) (by decide) rfl rfl (hb hby d6_41) ?_
      intro T6 h6 X6 e6 W6
      have G0__6 := G0.same W6
      have E0__6 := E0.wr W6
      have F0__6 := F0.other W6 (Or.inr (slot_ne (Or.inl (tw hw 15 rfl)) (Or.inl (tw hw 22 rfl)) (by decide) (t := .int) (t' := .boolean) (by decide) (by decide)))
      have Z_6 := Nat.le_trans Z0 (Nat.le_of_eq W6.size.symm)
      have K_6 : Keep h0 h6 [r0] := (Keep.refl h0 [r0]).wr W6 (Or.inl (List.mem_of_getElem? (i := 0) rfl))
      have N_6 := Fr.snoc X6 N0 g0
      show Go _ _ _ _ _ _ _ T6 (mkF m 44 #[.val (.ref r0), .val (.int p1)] [])
      subst e6
      exact gRetV X6 hx hlk hret (hb hby d6_44) (by decide) (by decide) ⟨rfl, N_6, K_6, E0__6, (by rw [show own_tl p1 ln bb = ln from ((if_neg hc1).trans (if_neg hc5))]; exact F0__6), (by rw [show own_tb p1 = (0 : Int32) from (if_neg hc1)]; exact G0__6)⟩
    · have hc5 := o_neF hT
      show Go _ _ _ _ _ _ _ s₁ (mkF m 12 #[.val (.ref r0), .val (.int p1)] [])
      refine gAloadN X0 hx (hb hby d6_12) rfl rfl ?_
      refine gGetF X0 hx hZ hown (tw hw 21 rfl) e0 G0 (hb hby d6_13) ?_
      intro T7 X7 e7
      show Go _ _ _ _ _ _ _ T7 (mkF m 16 #[.val (.ref r0), .val (.int p1)] [(.int bb)])
      refine gIf X7 hx 29 (hb hby d6_16) (by decide) (by decide) (fun hT => ?_) (fun hT => ?_)
      · have hc8 := o_neT hT
        show Go _ _ _ _ _ _ _ T7 (mkF m 29 #[.val (.ref r0), .val (.int p1)] [])
        refine gAloadN X7 hx (hb hby d6_29) rfl rfl ?_
        refine gIloadN X7 hx (hb hby d6_30) rfl ?_
        refine gBipush X7 hx (13 : Int32) (hb hby d6_31) rfl ?_
        refine gIcmp X7 hx 40 (hb hby d6_33) (by decide) (by decide) (fun _ => ?_) (fun q => absurd (o_neF q) hc1)
        show Go _ _ _ _ _ _ _ T7 (mkF m 40 #[.val (.ref r0), .val (.int p1)] [(.ref r0)])
        refine gIconst X7 hx (0 : Int32) (hb hby d6_40) rfl ?_
        refine gPutFN X7 hx hZ hown (tw hw 21 rfl) e7 (.int (0 : Int32)) G0 E0 (Or.inl (tw hw 22 rfl)) (tw hw 6 rfl) (ty := .boolean) (by decide) rfl rfl (hb hby d6_41) ?_
        intro T9 h9 X9 e9 W9
        have G0__9 := G0.same W9
        have E0__9 := E0.wr W9
        have F0__9 := F0.other W9 (Or.inr (slot_ne (Or.inl (tw hw 15 rfl)) (Or.inl (tw hw 22 rfl)) (by decide) (t := .int) (t' := .boolean) (by decide) (by decide)))
        have Z_9 := Nat.le_trans Z0 (Nat.le_of_eq W9.size.symm)
        have K_9 : Keep h0 h9 [r0] := (Keep.refl h0 [r0]).wr W9 (Or.inl (List.mem_of_getElem? (i := 0) rfl))
        have N_9 := Fr.snoc X9 N0 g0
        show Go _ _ _ _ _ _ _ T9 (mkF m 44 #[.val (.ref r0), .val (.int p1)] [])
        subst e9
        exact gRetV X9 hx hlk hret (hb hby d6_44) (by decide) (by decide) ⟨rfl, N_9, K_9, E0__9, (by rw [show own_tl p1 ln bb = ln from ((if_neg hc1).trans ((if_pos hc5).trans (if_neg hc8)))]; exact F0__9), (by rw [show own_tb p1 = (0 : Int32) from (if_neg hc1)]; exact G0__9)⟩
      · have hc8 := o_neF hT
        show Go _ _ _ _ _ _ _ T7 (mkF m 19 #[.val (.ref r0), .val (.int p1)] [])
        refine gAloadN X7 hx (hb hby d6_19) rfl rfl ?_
        refine gDup X7 hx (hb hby d6_20) rfl ?_
        refine gGetF X7 hx hZ hown (tw hw 14 rfl) e7 F0 (hb hby d6_21) ?_
        intro T10 X10 e10
        show Go _ _ _ _ _ _ _ T10 (mkF m 24 #[.val (.ref r0), .val (.int p1)] [(.int ln), (.ref r0)])
        refine gIconst X10 hx (1 : Int32) (hb hby d6_24) rfl ?_
        refine gIadd X10 hx (hb hby d6_25) ?_
        refine gPutF X10 hx hZ hown (tw hw 14 rfl) e10 F0 E0 (Or.inl (tw hw 15 rfl)) (tw hw 6 rfl) (ty := .int) (by decide) rfl rfl (hb hby d6_26) ?_
        intro T11 h11 X11 e11 W11
        have F0__11 := F0.same W11
        have E0__11 := E0.wr W11
        have G0__11 := G0.other W11 (Or.inr (slot_ne (Or.inl (tw hw 22 rfl)) (Or.inl (tw hw 15 rfl)) (by decide) (t := .boolean) (t' := .int) (by decide) (by decide)))
        have Z_11 := Nat.le_trans Z0 (Nat.le_of_eq W11.size.symm)
        have K_11 : Keep h0 h11 [r0] := (Keep.refl h0 [r0]).wr W11 (Or.inl (List.mem_of_getElem? (i := 0) rfl))
        have N_11 := Fr.snoc X11 N0 g0
        show Go _ _ _ _ _ _ _ T11 (mkF m 29 #[.val (.ref r0), .val (.int p1)] [])
        refine gAloadN X11 hx (hb hby d6_29) rfl rfl ?_
        refine gIloadN X11 hx (hb hby d6_30) rfl ?_
        refine gBipush X11 hx (13 : Int32) (hb hby d6_31) rfl ?_
        refine gIcmp X11 hx 40 (hb hby d6_33) (by decide) (by decide) (fun _ => ?_) (fun q => absurd (o_neF q) hc1)
        show Go _ _ _ _ _ _ _ T11 (mkF m 40 #[.val (.ref r0), .val (.int p1)] [(.ref r0)])
        refine gIconst X11 hx (0 : Int32) (hb hby d6_40) rfl ?_
        refine gPutFN X11 hx hZ hown (tw hw 21 rfl) e11 (.int (0 : Int32)) G0__11 E0__11 (Or.inl (tw hw 22 rfl)) (tw hw 6 rfl) (ty := .boolean) (by decide) rfl rfl (hb hby d6_41) ?_
        intro T12 h12 X12 e12 W12
        have G0__12 := G0__11.same W12
        have E0__12 := E0__11.wr W12
        have F0__12 := F0__11.other W12 (Or.inr (slot_ne (Or.inl (tw hw 15 rfl)) (Or.inl (tw hw 22 rfl)) (by decide) (t := .int) (t' := .boolean) (by decide) (by decide)))
        have Z_12 := Nat.le_trans Z_11 (Nat.le_of_eq W12.size.symm)
        have K_12 : Keep h0 h12 [r0] := K_11.wr W12 (Or.inl (List.mem_of_getElem? (i := 0) rfl))
        have N_12 := Fr.snoc X12 N_11 g0
        show Go _ _ _ _ _ _ _ T12 (mkF m 44 #[.val (.ref r0), .val (.int p1)] [])
        subst e12
        exact gRetV X12 hx hlk hret (hb hby d6_44) (by decide) (by decide) ⟨rfl, N_12, K_12, E0__12, (by rw [show own_tl p1 ln bb = (ln + (1 : Int32)) from ((if_neg hc1).trans ((if_pos hc5).trans (if_pos hc8)))]; exact F0__12), (by rw [show own_tb p1 = (0 : Int32) from (if_neg hc1)]; exact G0__12)⟩
theorem d7_0 : decode prog_83_method_4_code 0 = .ok (.aload_n 0, 1) := by decide +kernel
theorem d7_1 : decode prog_83_method_4_code 1 = .ok (.getfield 7, 3) := by decide +kernel
theorem d7_4 : decode prog_83_method_4_code 4 = .ok (.ireturn, 1) := by decide +kernel
theorem own_pn7 : plainFor (⟨"com/example/renkei/renkei/reader/LineCount", "line", "()I"⟩ : MethodName) = true := plainFor_of_name (by first | (simp [plainName, overriddenIn]; done) | decide +kernel)
theorem own_ef7 (r0 : Addr) (m : MethodId) : entryFrame m #[(.ref r0)] 1 = mkF m 0 #[.val (.ref r0)] [] := by first | (simp [entryFrame, mkF, argsToLocals, Value.category]; done) | rfl
theorem own_pd4 : parseMethodDescriptor "()I" = some ⟨[], some .int⟩ := by decide +kernel
set_option maxRecDepth 65536 in
set_option maxHeartbeats 40000000 in
theorem own_rm7 (l : Launch) (Z : State) (a0 : Array Value) (hw : ∀ d ∈ tables_1, d.before a0 Z = true) (r0 : Addr) (h0 : Heap) (n0 : Nat) (Z0 : n0 ≤ h0.size) (ln bb : Int32) (E0 : Exa Z h0 r0 "com/example/renkei/renkei/reader/LineCount") (F0 : Fld Z h0 r0 "com/example/renkei/renkei/reader/LineCount" "line" "I" (.int ln)) (G0 : Fld Z h0 r0 "com/example/renkei/renkei/reader/LineCount" "afterCarriageReturn" "Z" (.int bb)) (g0 : n0 ≤ r0) :
    Met l Z (⟨"com/example/renkei/renkei/reader/LineCount", "line", "()I"⟩ : MethodName) prog_83_method_4_code 1 (some .int) [] ({ frames := 0, cells := 0, slots := 0, locals := 0 } : Room) #[(.ref r0)] h0 (fun v h L => v = some (.int ln) ∧ Fr n0 L ∧ h = h0) := by
  refine met_of (Ls := #[.val (.ref r0)]) own_pn7 (own_ef7 r0) ?_
  intro p e s m below meth c s₁ hx hby hml hown hnm hret hlk hZ X0 e0
  have N0 := Fr.nil n0
  refine gAloadN X0 hx (hb hby d7_0) rfl rfl ?_
  refine gGetF X0 hx hZ hown (tw hw 14 rfl) e0 F0 (hb hby d7_1) ?_
  intro T1 X1 e1
  show Go _ _ _ _ _ _ _ T1 (mkF m 4 #[.val (.ref r0)] [(.int ln)])
  exact gRetI X1 hx hlk hret (hb hby d7_4) (by decide) (by decide) ⟨rfl, N0, e1⟩
theorem own_e1 (u ln : Int32) : own_tl u ln (0 : Int32) = ln + own_cr u + own_lf u := by
  by_cases h1 : u = 13
  · subst h1; simp [own_tl, own_cr, own_lf]
  · by_cases h2 : u = 10
    · subst h2; simp [own_tl, own_cr, own_lf]
    · simp [own_tl, own_cr, own_lf, h1, h2]
theorem own_st (v u : Int32) {ln e : Int32} (q : ln = e) : own_tl u ln (own_tb v) = e + own_cr u + own_lf u - own_pair v u := by
  subst q
  by_cases h1 : u = 13
  · subst h1; by_cases h3 : v = 13 <;> simp [own_tl, own_tb, own_cr, own_lf, own_pair, own_pair_16, h3]
  · by_cases h2 : u = 10
    · subst h2; by_cases h3 : v = 13 <;> simp [own_tl, own_tb, own_cr, own_lf, own_pair, own_pair_16, h3]
    · by_cases h3 : v = 13 <;> simp [own_tl, own_tb, own_cr, own_lf, own_pair, own_pair_16, h1, h2, h3]
theorem own_pn8 : plainFor x = true := plainFor_of_name (by first | (simp [plainName, overriddenIn]; done) | decide +kernel)
theorem own_ef8 (p0 : Int32) (p1 : Int32) (p2 : Int32) (p3 : Int32) (p4 : Int32) (p5 : Int32) (m : MethodId) : entryFrame m #[(.int p0), (.int p1), (.int p2), (.int p3), (.int p4), (.int p5)] maxLocals = mkF m 0 #[.val (.int p0), .val (.int p1), .val (.int p2), .val (.int p3), .val (.int p4), .val (.int p5), .unset, .unset, .unset, .unset, .unset, .unset, .unset, .unset, .unset, .unset, .unset] [] := by first | (simp [entryFrame, mkF, argsToLocals, Value.category, maxLocals]; done) | rfl
theorem own_pd5 : parseMethodDescriptor "(IIIIII)Z" = some ⟨[.int, .int, .int, .int, .int, .int], some .boolean⟩ := by decide +kernel
set_option maxRecDepth 65536 in
set_option maxHeartbeats 40000000 in
theorem own_rm8 (l : Launch) (Z : State) (a0 : Array Value) (hw : ∀ d ∈ tables_1, d.before a0 Z = true) (p0 : Int32) (p1 : Int32) (p2 : Int32) (p3 : Int32) (p4 : Int32) (p5 : Int32) (h0 : Heap) (n0 : Nat) (Z0 : n0 ≤ h0.size)  :
    Met l Z x code maxLocals ret tables_1 room_1 #[(.int p0), (.int p1), (.int p2), (.int p3), (.int p4), (.int p5)] h0 (fun v h L => v = some (.int 1) ∧ Fr n0 L) := by
  refine met_of (Ls := #[.val (.int p0), .val (.int p1), .val (.int p2), .val (.int p3), .val (.int p4), .val (.int p5), .unset, .unset, .unset, .unset, .unset, .unset, .unset, .unset, .unset, .unset, .unset]) own_pn8 (own_ef8 p0 p1 p2 p3 p4 p5) ?_
  intro p e s m below meth c s₁ hx hby hml hown hnm hret hlk hZ X0 e0
  have N0 := Fr.nil n0
  refine gIloadN X0 hx (hb hby at_0) rfl ?_
  refine gStatic X0 hx hZ (y := (⟨"com/example/renkei/renkei/reader/LineCountTake326PinLaw", "unit", "(I)I"⟩ : MethodName)) hown (by decide) (tw hw 0 rfl) (tw hw 1 rfl) (tw hw 2 rfl) (tw hw 3 rfl) (own_rm0 l Z a0 hw p0 h0 n0 Z0) e0 (by rw [hml]; rfl) (argsL := [(.int p0)]) (rest := []) (W := 0) (lenOf own_pd0 rfl) rfl (Nat.le_of_eq rfl) (by decide) (by decide) (by decide) (by decide) (hb hby at_1) ?_
  rintro _ T1 L1 X1 ⟨rfl, Nq1, e1⟩
  have N_1 := Fr.app N0 Nq1
  show Go _ _ _ _ _ _ _ T1 (mkF m 4 #[.val (.int p0), .val (.int p1), .val (.int p2), .val (.int p3), .val (.int p4), .val (.int p5), .unset, .unset, .unset, .unset, .unset, .unset, .unset, .unset, .unset, .unset, .unset] [(.int (own_unit p0))])
  generalize (own_unit p0) = u1
  refine gIstore X1 hx #[.val (.int p0), .val (.int p1), .val (.int p2), .val (.int p3), .val (.int p4), .val (.int p5), .val (.int u1), .unset, .unset, .unset, .unset, .unset, .unset, .unset, .unset, .unset, .unset] (hb hby at_4) rfl ?_
  refine gIloadN X1 hx (hb hby at_6) rfl ?_
  refine gStatic X1 hx hZ (y := (⟨"com/example/renkei/renkei/reader/LineCountTake326PinLaw", "unit", "(I)I"⟩ : MethodName)) hown (by decide) (tw hw 0 rfl) (tw hw 1 rfl) (tw hw 2 rfl) (tw hw 3 rfl) (own_rm0 l Z a0 hw p1 h0 n0 Z0) e1 (by rw [hml]; rfl) (argsL := [(.int p1)]) (rest := []) (W := 0) (lenOf own_pd0 rfl) rfl (Nat.le_of_eq rfl) (by decide) (by decide) (by decide) (by decide) (hb hby at_7) ?_
  rintro _ T2 L2 X2 ⟨rfl, Nq2, e2⟩
  have N_2 := Fr.app N_1 Nq2
  show Go _ _ _ _ _ _ _ T2 (mkF m 10 #[.val (.int p0), .val (.int p1), .val (.int p2), .val (.int p3), .val (.int p4), .val (.int p5), .val (.int u1), .unset, .unset, .unset, .unset, .unset, .unset, .unset, .unset, .unset, .unset] [(.int (own_unit p1))])
  generalize (own_unit p1) = u2
  refine gIstore X2 hx #[.val (.int p0), .val (.int p1), .val (.int p2), .val (.int p3), .val (.int p4), .val (.int p5), .val (.int u1), .val (.int u2), .unset, .unset, .unset, .unset, .unset, .unset, .unset, .unset, .unset] (hb hby at_10) rfl ?_
  refine gIloadN X2 hx (hb hby at_12) rfl ?_
  refine gStatic X2 hx hZ (y := (⟨"com/example/renkei/renkei/reader/LineCountTake326PinLaw", "unit", "(I)I"⟩ : MethodName)) hown (by decide) (tw hw 0 rfl) (tw hw 1 rfl) (tw hw 2 rfl) (tw hw 3 rfl) (own_rm0 l Z a0 hw p2 h0 n0 Z0) e2 (by rw [hml]; rfl) (argsL := [(.int p2)]) (rest := []) (W := 0) (lenOf own_pd0 rfl) rfl (Nat.le_of_eq rfl) (by decide) (by decide) (by decide) (by decide) (hb hby at_13) ?_
  rintro _ T3 L3 X3 ⟨rfl, Nq3, e3⟩
  have N_3 := Fr.app N_2 Nq3
  show Go _ _ _ _ _ _ _ T3 (mkF m 16 #[.val (.int p0), .val (.int p1), .val (.int p2), .val (.int p3), .val (.int p4), .val (.int p5), .val (.int u1), .val (.int u2), .unset, .unset, .unset, .unset, .unset, .unset, .unset, .unset, .unset] [(.int (own_unit p2))])
  generalize (own_unit p2) = u3
  refine gIstore X3 hx #[.val (.int p0), .val (.int p1), .val (.int p2), .val (.int p3), .val (.int p4), .val (.int p5), .val (.int u1), .val (.int u2), .val (.int u3), .unset, .unset, .unset, .unset, .unset, .unset, .unset, .unset] (hb hby at_16) rfl ?_
  refine gIloadN X3 hx (hb hby at_18) rfl ?_
  refine gStatic X3 hx hZ (y := (⟨"com/example/renkei/renkei/reader/LineCountTake326PinLaw", "unit", "(I)I"⟩ : MethodName)) hown (by decide) (tw hw 0 rfl) (tw hw 1 rfl) (tw hw 2 rfl) (tw hw 3 rfl) (own_rm0 l Z a0 hw p3 h0 n0 Z0) e3 (by rw [hml]; rfl) (argsL := [(.int p3)]) (rest := []) (W := 0) (lenOf own_pd0 rfl) rfl (Nat.le_of_eq rfl) (by decide) (by decide) (by decide) (by decide) (hb hby at_19) ?_
  rintro _ T4 L4 X4 ⟨rfl, Nq4, e4⟩
  have N_4 := Fr.app N_3 Nq4
  show Go _ _ _ _ _ _ _ T4 (mkF m 22 #[.val (.int p0), .val (.int p1), .val (.int p2), .val (.int p3), .val (.int p4), .val (.int p5), .val (.int u1), .val (.int u2), .val (.int u3), .unset, .unset, .unset, .unset, .unset, .unset, .unset, .unset] [(.int (own_unit p3))])
  generalize (own_unit p3) = u4
  refine gIstore X4 hx #[.val (.int p0), .val (.int p1), .val (.int p2), .val (.int p3), .val (.int p4), .val (.int p5), .val (.int u1), .val (.int u2), .val (.int u3), .val (.int u4), .unset, .unset, .unset, .unset, .unset, .unset, .unset] (hb hby at_22) rfl ?_
  refine gNew X4 hx hZ hown (tw hw 5 rfl) (tw hw 6 rfl) (tw hw 7 rfl) e4 (hb hby at_24) (by decide) (by decide) ?_
  intro T5 h5 b5 X5 e5 E5 g5 A5 D5
  have g_b5 : n0 ≤ b5 := by rw [g5]; exact Z0
  have Z_5 := Nat.le_trans Z0 E5.1
  have F_line_b5 : Fld Z h5 b5 "com/example/renkei/renkei/reader/LineCount" "line" "I" (.int (0 : Int32)) := D5 (Or.inl (tw hw 15 rfl)) (ty := .int) (by decide)
  have F_afterCarriageReturn_b5 : Fld Z h5 b5 "com/example/renkei/renkei/reader/LineCount" "afterCarriageReturn" "Z" (.int (0 : Int32)) := D5 (Or.inl (tw hw 22 rfl)) (ty := .boolean) (by decide)
  show Go _ _ _ _ _ _ _ T5 (mkF m 27 #[.val (.int p0), .val (.int p1), .val (.int p2), .val (.int p3), .val (.int p4), .val (.int p5), .val (.int u1), .val (.int u2), .val (.int u3), .val (.int u4), .unset, .unset, .unset, .unset, .unset, .unset, .unset] [(.ref b5)])
  refine gDup X5 hx (hb hby at_27) rfl ?_
  refine gInit X5 hx hZ (y := (⟨"com/example/renkei/renkei/reader/LineCount", "<init>", "()V"⟩ : MethodName)) (a := b5) hown rfl (by decide) (tw hw 8 rfl) (tw hw 9 rfl) (tw hw 7 rfl) (tw hw 10 rfl) (own_rm4 l Z a0 hw b5 h5 n0 Z_5 (0 : Int32) (0 : Int32) A5 F_line_b5 F_afterCarriageReturn_b5 g_b5) e5 (by rw [hml]; rfl) (argsL := []) (rest := [(.ref b5)]) (W := 1) (lenOf own_pd2 rfl) rfl (Nat.le_of_eq rfl) (by decide) (by decide) (by decide) (by decide) (hb hby at_28) ?_
  rintro _ T6 L6 X6 ⟨rfl, Nq6, Kq6, Eq6, Fq6, Gq6⟩
  have N_6 := Fr.app N_4 Nq6
  have Z_6 := Nat.le_trans Z_5 Kq6.1
  show Go _ _ _ _ _ _ _ T6 (mkF m 31 #[.val (.int p0), .val (.int p1), .val (.int p2), .val (.int p3), .val (.int p4), .val (.int p5), .val (.int u1), .val (.int u2), .val (.int u3), .val (.int u4), .unset, .unset, .unset, .unset, .unset, .unset, .unset] [(.ref b5)])
  refine gAstore X6 hx #[.val (.int p0), .val (.int p1), .val (.int p2), .val (.int p3), .val (.int p4), .val (.int p5), .val (.int u1), .val (.int u2), .val (.int u3), .val (.int u4), .val (.ref b5), .unset, .unset, .unset, .unset, .unset, .unset] (hb hby at_31) rfl rfl ?_
  refine gIconst X6 hx (1 : Int32) (hb hby at_33) rfl ?_
  refine gIstore X6 hx #[.val (.int p0), .val (.int p1), .val (.int p2), .val (.int p3), .val (.int p4), .val (.int p5), .val (.int u1), .val (.int u2), .val (.int u3), .val (.int u4), .val (.ref b5), .val (.int (1 : Int32)), .unset, .unset, .unset, .unset, .unset] (hb hby at_34) rfl ?_
  refine gIload X6 hx (hb hby at_36) rfl ?_
  refine gIconst X6 hx (1 : Int32) (hb hby at_38) rfl ?_
  refine gIand X6 hx (hb hby at_39) ?_
  refine gIf X6 hx 54 (hb hby at_40) (by decide) (by decide) (fun hT => ?_) (fun hT => ?_)
  · have hc7 := o_eqT hT
    show Go _ _ _ _ _ _ _ T6 (mkF m 54 #[.val (.int p0), .val (.int p1), .val (.int p2), .val (.int p3), .val (.int p4), .val (.int p5), .val (.int u1), .val (.int u2), .val (.int u3), .val (.int u4), .val (.ref b5), .val (.int (1 : Int32)), .unset, .unset, .unset, .unset, .unset] [])
    refine gIload X6 hx (hb hby at_54) rfl ?_
    refine gIload X6 hx (hb hby at_56) rfl ?_
    refine gStatic X6 hx hZ (y := (⟨"com/example/renkei/renkei/reader/LineCountTake326PinLaw", "cr", "(I)I"⟩ : MethodName)) hown (by decide) (tw hw 23 rfl) (tw hw 24 rfl) (tw hw 2 rfl) (tw hw 25 rfl) (own_rm1 l Z a0 hw u1 T6.heap n0 Z_6) rfl (by rw [hml]; rfl) (argsL := [(.int u1)]) (rest := [(.int (1 : Int32))]) (W := 1) (lenOf own_pd0 rfl) rfl (Nat.le_of_eq rfl) (by decide) (by decide) (by decide) (by decide) (hb hby at_58) ?_
    rintro _ T8 L8 X8 ⟨rfl, Nq8, e8⟩
    have N_8 := Fr.app N_6 Nq8
    show Go _ _ _ _ _ _ _ T8 (mkF m 61 #[.val (.int p0), .val (.int p1), .val (.int p2), .val (.int p3), .val (.int p4), .val (.int p5), .val (.int u1), .val (.int u2), .val (.int u3), .val (.int u4), .val (.ref b5), .val (.int (1 : Int32)), .unset, .unset, .unset, .unset, .unset] [(.int (own_cr u1)), (.int (1 : Int32))])
    refine gIadd X8 hx (hb hby at_61) ?_
    refine gIload X8 hx (hb hby at_62) rfl ?_
    refine gStatic X8 hx hZ (y := (⟨"com/example/renkei/renkei/reader/LineCountTake326PinLaw", "lf", "(I)I"⟩ : MethodName)) hown (by decide) (tw hw 26 rfl) (tw hw 27 rfl) (tw hw 2 rfl) (tw hw 28 rfl) (own_rm2 l Z a0 hw u1 T6.heap n0 Z_6) e8 (by rw [hml]; rfl) (argsL := [(.int u1)]) (rest := [(.int ((1 : Int32) + (own_cr u1)))]) (W := 1) (lenOf own_pd0 rfl) rfl (Nat.le_of_eq rfl) (by decide) (by decide) (by decide) (by decide) (hb hby at_64) ?_
    rintro _ T9 L9 X9 ⟨rfl, Nq9, e9⟩
    have N_9 := Fr.app N_8 Nq9
    show Go _ _ _ _ _ _ _ T9 (mkF m 67 #[.val (.int p0), .val (.int p1), .val (.int p2), .val (.int p3), .val (.int p4), .val (.int p5), .val (.int u1), .val (.int u2), .val (.int u3), .val (.int u4), .val (.ref b5), .val (.int (1 : Int32)), .unset, .unset, .unset, .unset, .unset] [(.int (own_lf u1)), (.int ((1 : Int32) + (own_cr u1)))])
    refine gIadd X9 hx (hb hby at_67) ?_
    refine gIstore X9 hx #[.val (.int p0), .val (.int p1), .val (.int p2), .val (.int p3), .val (.int p4), .val (.int p5), .val (.int u1), .val (.int u2), .val (.int u3), .val (.int u4), .val (.ref b5), .val (.int (1 : Int32)), .val (.int (((1 : Int32) + (own_cr u1)) + (own_lf u1))), .unset, .unset, .unset, .unset] (hb hby at_68) rfl ?_
    refine gIload X9 hx (hb hby at_70) rfl ?_
    refine gIload X9 hx (hb hby at_72) rfl ?_
    refine gStatic X9 hx hZ (y := (⟨"com/example/renkei/renkei/reader/LineCountTake326PinLaw", "cr", "(I)I"⟩ : MethodName)) hown (by decide) (tw hw 23 rfl) (tw hw 24 rfl) (tw hw 2 rfl) (tw hw 25 rfl) (own_rm1 l Z a0 hw u2 T6.heap n0 Z_6) e9 (by rw [hml]; rfl) (argsL := [(.int u2)]) (rest := [(.int (((1 : Int32) + (own_cr u1)) + (own_lf u1)))]) (W := 1) (lenOf own_pd0 rfl) rfl (Nat.le_of_eq rfl) (by decide) (by decide) (by decide) (by decide) (hb hby at_74) ?_
    rintro _ T10 L10 X10 ⟨rfl, Nq10, e10⟩
    have N_10 := Fr.app N_9 Nq10
    show Go _ _ _ _ _ _ _ T10 (mkF m 77 #[.val (.int p0), .val (.int p1), .val (.int p2), .val (.int p3), .val (.int p4), .val (.int p5), .val (.int u1), .val (.int u2), .val (.int u3), .val (.int u4), .val (.ref b5), .val (.int (1 : Int32)), .val (.int (((1 : Int32) + (own_cr u1)) + (own_lf u1))), .unset, .unset, .unset, .unset] [(.int (own_cr u2)), (.int (((1 : Int32) + (own_cr u1)) + (own_lf u1)))])
    refine gIadd X10 hx (hb hby at_77) ?_
    refine gIload X10 hx (hb hby at_78) rfl ?_
    refine gStatic X10 hx hZ (y := (⟨"com/example/renkei/renkei/reader/LineCountTake326PinLaw", "lf", "(I)I"⟩ : MethodName)) hown (by decide) (tw hw 26 rfl) (tw hw 27 rfl) (tw hw 2 rfl) (tw hw 28 rfl) (own_rm2 l Z a0 hw u2 T6.heap n0 Z_6) e10 (by rw [hml]; rfl) (argsL := [(.int u2)]) (rest := [(.int ((((1 : Int32) + (own_cr u1)) + (own_lf u1)) + (own_cr u2)))]) (W := 1) (lenOf own_pd0 rfl) rfl (Nat.le_of_eq rfl) (by decide) (by decide) (by decide) (by decide) (hb hby at_80) ?_
    rintro _ T11 L11 X11 ⟨rfl, Nq11, e11⟩
    have N_11 := Fr.app N_10 Nq11
    show Go _ _ _ _ _ _ _ T11 (mkF m 83 #[.val (.int p0), .val (.int p1), .val (.int p2), .val (.int p3), .val (.int p4), .val (.int p5), .val (.int u1), .val (.int u2), .val (.int u3), .val (.int u4), .val (.ref b5), .val (.int (1 : Int32)), .val (.int (((1 : Int32) + (own_cr u1)) + (own_lf u1))), .unset, .unset, .unset, .unset] [(.int (own_lf u2)), (.int ((((1 : Int32) + (own_cr u1)) + (own_lf u1)) + (own_cr u2)))])
    refine gIadd X11 hx (hb hby at_83) ?_
    refine gIload X11 hx (hb hby at_84) rfl ?_
    refine gIload X11 hx (hb hby at_86) rfl ?_
    refine gStatic X11 hx hZ (y := (⟨"com/example/renkei/renkei/reader/LineCountTake326PinLaw", "pair", "(II)I"⟩ : MethodName)) hown (by decide) (tw hw 29 rfl) (tw hw 30 rfl) (tw hw 2 rfl) (tw hw 31 rfl) (own_rm3 l Z a0 hw u1 u2 T6.heap n0 Z_6) e11 (by rw [hml]; rfl) (argsL := [(.int u1), (.int u2)]) (rest := [(.int (((((1 : Int32) + (own_cr u1)) + (own_lf u1)) + (own_cr u2)) + (own_lf u2)))]) (W := 1) (lenOf own_pd1 rfl) rfl (Nat.le_of_eq rfl) (by decide) (by decide) (by decide) (by decide) (hb hby at_88) ?_
    rintro _ T12 L12 X12 ⟨rfl, Nq12, e12⟩
    have N_12 := Fr.app N_11 Nq12
    show Go _ _ _ _ _ _ _ T12 (mkF m 91 #[.val (.int p0), .val (.int p1), .val (.int p2), .val (.int p3), .val (.int p4), .val (.int p5), .val (.int u1), .val (.int u2), .val (.int u3), .val (.int u4), .val (.ref b5), .val (.int (1 : Int32)), .val (.int (((1 : Int32) + (own_cr u1)) + (own_lf u1))), .unset, .unset, .unset, .unset] [(.int (own_pair u1 u2)), (.int (((((1 : Int32) + (own_cr u1)) + (own_lf u1)) + (own_cr u2)) + (own_lf u2)))])
    refine gIsub X12 hx (hb hby at_91) ?_
    refine gIstore X12 hx #[.val (.int p0), .val (.int p1), .val (.int p2), .val (.int p3), .val (.int p4), .val (.int p5), .val (.int u1), .val (.int u2), .val (.int u3), .val (.int u4), .val (.ref b5), .val (.int (1 : Int32)), .val (.int (((1 : Int32) + (own_cr u1)) + (own_lf u1))), .val (.int ((((((1 : Int32) + (own_cr u1)) + (own_lf u1)) + (own_cr u2)) + (own_lf u2)) - (own_pair u1 u2))), .unset, .unset, .unset] (hb hby at_92) rfl ?_
    refine gIload X12 hx (hb hby at_94) rfl ?_
    refine gIload X12 hx (hb hby at_96) rfl ?_
    refine gStatic X12 hx hZ (y := (⟨"com/example/renkei/renkei/reader/LineCountTake326PinLaw", "cr", "(I)I"⟩ : MethodName)) hown (by decide) (tw hw 23 rfl) (tw hw 24 rfl) (tw hw 2 rfl) (tw hw 25 rfl) (own_rm1 l Z a0 hw u3 T6.heap n0 Z_6) e12 (by rw [hml]; rfl) (argsL := [(.int u3)]) (rest := [(.int ((((((1 : Int32) + (own_cr u1)) + (own_lf u1)) + (own_cr u2)) + (own_lf u2)) - (own_pair u1 u2)))]) (W := 1) (lenOf own_pd0 rfl) rfl (Nat.le_of_eq rfl) (by decide) (by decide) (by decide) (by decide) (hb hby at_98) ?_
    rintro _ T13 L13 X13 ⟨rfl, Nq13, e13⟩
    have N_13 := Fr.app N_12 Nq13
    show Go _ _ _ _ _ _ _ T13 (mkF m 101 #[.val (.int p0), .val (.int p1), .val (.int p2), .val (.int p3), .val (.int p4), .val (.int p5), .val (.int u1), .val (.int u2), .val (.int u3), .val (.int u4), .val (.ref b5), .val (.int (1 : Int32)), .val (.int (((1 : Int32) + (own_cr u1)) + (own_lf u1))), .val (.int ((((((1 : Int32) + (own_cr u1)) + (own_lf u1)) + (own_cr u2)) + (own_lf u2)) - (own_pair u1 u2))), .unset, .unset, .unset] [(.int (own_cr u3)), (.int ((((((1 : Int32) + (own_cr u1)) + (own_lf u1)) + (own_cr u2)) + (own_lf u2)) - (own_pair u1 u2)))])
    refine gIadd X13 hx (hb hby at_101) ?_
    refine gIload X13 hx (hb hby at_102) rfl ?_
    refine gStatic X13 hx hZ (y := (⟨"com/example/renkei/renkei/reader/LineCountTake326PinLaw", "lf", "(I)I"⟩ : MethodName)) hown (by decide) (tw hw 26 rfl) (tw hw 27 rfl) (tw hw 2 rfl) (tw hw 28 rfl) (own_rm2 l Z a0 hw u3 T6.heap n0 Z_6) e13 (by rw [hml]; rfl) (argsL := [(.int u3)]) (rest := [(.int (((((((1 : Int32) + (own_cr u1)) + (own_lf u1)) + (own_cr u2)) + (own_lf u2)) - (own_pair u1 u2)) + (own_cr u3)))]) (W := 1) (lenOf own_pd0 rfl) rfl (Nat.le_of_eq rfl) (by decide) (by decide) (by decide) (by decide) (hb hby at_104) ?_
    rintro _ T14 L14 X14 ⟨rfl, Nq14, e14⟩
    have N_14 := Fr.app N_13 Nq14
    show Go _ _ _ _ _ _ _ T14 (mkF m 107 #[.val (.int p0), .val (.int p1), .val (.int p2), .val (.int p3), .val (.int p4), .val (.int p5), .val (.int u1), .val (.int u2), .val (.int u3), .val (.int u4), .val (.ref b5), .val (.int (1 : Int32)), .val (.int (((1 : Int32) + (own_cr u1)) + (own_lf u1))), .val (.int ((((((1 : Int32) + (own_cr u1)) + (own_lf u1)) + (own_cr u2)) + (own_lf u2)) - (own_pair u1 u2))), .unset, .unset, .unset] [(.int (own_lf u3)), (.int (((((((1 : Int32) + (own_cr u1)) + (own_lf u1)) + (own_cr u2)) + (own_lf u2)) - (own_pair u1 u2)) + (own_cr u3)))])
    refine gIadd X14 hx (hb hby at_107) ?_
    refine gIload X14 hx (hb hby at_108) rfl ?_
    refine gIload X14 hx (hb hby at_110) rfl ?_
    refine gStatic X14 hx hZ (y := (⟨"com/example/renkei/renkei/reader/LineCountTake326PinLaw", "pair", "(II)I"⟩ : MethodName)) hown (by decide) (tw hw 29 rfl) (tw hw 30 rfl) (tw hw 2 rfl) (tw hw 31 rfl) (own_rm3 l Z a0 hw u2 u3 T6.heap n0 Z_6) e14 (by rw [hml]; rfl) (argsL := [(.int u2), (.int u3)]) (rest := [(.int ((((((((1 : Int32) + (own_cr u1)) + (own_lf u1)) + (own_cr u2)) + (own_lf u2)) - (own_pair u1 u2)) + (own_cr u3)) + (own_lf u3)))]) (W := 1) (lenOf own_pd1 rfl) rfl (Nat.le_of_eq rfl) (by decide) (by decide) (by decide) (by decide) (hb hby at_112) ?_
    rintro _ T15 L15 X15 ⟨rfl, Nq15, e15⟩
    have N_15 := Fr.app N_14 Nq15
    show Go _ _ _ _ _ _ _ T15 (mkF m 115 #[.val (.int p0), .val (.int p1), .val (.int p2), .val (.int p3), .val (.int p4), .val (.int p5), .val (.int u1), .val (.int u2), .val (.int u3), .val (.int u4), .val (.ref b5), .val (.int (1 : Int32)), .val (.int (((1 : Int32) + (own_cr u1)) + (own_lf u1))), .val (.int ((((((1 : Int32) + (own_cr u1)) + (own_lf u1)) + (own_cr u2)) + (own_lf u2)) - (own_pair u1 u2))), .unset, .unset, .unset] [(.int (own_pair u2 u3)), (.int ((((((((1 : Int32) + (own_cr u1)) + (own_lf u1)) + (own_cr u2)) + (own_lf u2)) - (own_pair u1 u2)) + (own_cr u3)) + (own_lf u3)))])
    refine gIsub X15 hx (hb hby at_115) ?_
    refine gIstore X15 hx #[.val (.int p0), .val (.int p1), .val (.int p2), .val (.int p3), .val (.int p4), .val (.int p5), .val (.int u1), .val (.int u2), .val (.int u3), .val (.int u4), .val (.ref b5), .val (.int (1 : Int32)), .val (.int (((1 : Int32) + (own_cr u1)) + (own_lf u1))), .val (.int ((((((1 : Int32) + (own_cr u1)) + (own_lf u1)) + (own_cr u2)) + (own_lf u2)) - (own_pair u1 u2))), .val (.int (((((((((1 : Int32) + (own_cr u1)) + (own_lf u1)) + (own_cr u2)) + (own_lf u2)) - (own_pair u1 u2)) + (own_cr u3)) + (own_lf u3)) - (own_pair u2 u3))), .unset, .unset] (hb hby at_116) rfl ?_
    refine gIload X15 hx (hb hby at_118) rfl ?_
    refine gIload X15 hx (hb hby at_120) rfl ?_
    refine gStatic X15 hx hZ (y := (⟨"com/example/renkei/renkei/reader/LineCountTake326PinLaw", "cr", "(I)I"⟩ : MethodName)) hown (by decide) (tw hw 23 rfl) (tw hw 24 rfl) (tw hw 2 rfl) (tw hw 25 rfl) (own_rm1 l Z a0 hw u4 T6.heap n0 Z_6) e15 (by rw [hml]; rfl) (argsL := [(.int u4)]) (rest := [(.int (((((((((1 : Int32) + (own_cr u1)) + (own_lf u1)) + (own_cr u2)) + (own_lf u2)) - (own_pair u1 u2)) + (own_cr u3)) + (own_lf u3)) - (own_pair u2 u3)))]) (W := 1) (lenOf own_pd0 rfl) rfl (Nat.le_of_eq rfl) (by decide) (by decide) (by decide) (by decide) (hb hby at_122) ?_
    rintro _ T16 L16 X16 ⟨rfl, Nq16, e16⟩
    have N_16 := Fr.app N_15 Nq16
    show Go _ _ _ _ _ _ _ T16 (mkF m 125 #[.val (.int p0), .val (.int p1), .val (.int p2), .val (.int p3), .val (.int p4), .val (.int p5), .val (.int u1), .val (.int u2), .val (.int u3), .val (.int u4), .val (.ref b5), .val (.int (1 : Int32)), .val (.int (((1 : Int32) + (own_cr u1)) + (own_lf u1))), .val (.int ((((((1 : Int32) + (own_cr u1)) + (own_lf u1)) + (own_cr u2)) + (own_lf u2)) - (own_pair u1 u2))), .val (.int (((((((((1 : Int32) + (own_cr u1)) + (own_lf u1)) + (own_cr u2)) + (own_lf u2)) - (own_pair u1 u2)) + (own_cr u3)) + (own_lf u3)) - (own_pair u2 u3))), .unset, .unset] [(.int (own_cr u4)), (.int (((((((((1 : Int32) + (own_cr u1)) + (own_lf u1)) + (own_cr u2)) + (own_lf u2)) - (own_pair u1 u2)) + (own_cr u3)) + (own_lf u3)) - (own_pair u2 u3)))])
    refine gIadd X16 hx (hb hby at_125) ?_
    refine gIload X16 hx (hb hby at_126) rfl ?_
    refine gStatic X16 hx hZ (y := (⟨"com/example/renkei/renkei/reader/LineCountTake326PinLaw", "lf", "(I)I"⟩ : MethodName)) hown (by decide) (tw hw 26 rfl) (tw hw 27 rfl) (tw hw 2 rfl) (tw hw 28 rfl) (own_rm2 l Z a0 hw u4 T6.heap n0 Z_6) e16 (by rw [hml]; rfl) (argsL := [(.int u4)]) (rest := [(.int ((((((((((1 : Int32) + (own_cr u1)) + (own_lf u1)) + (own_cr u2)) + (own_lf u2)) - (own_pair u1 u2)) + (own_cr u3)) + (own_lf u3)) - (own_pair u2 u3)) + (own_cr u4)))]) (W := 1) (lenOf own_pd0 rfl) rfl (Nat.le_of_eq rfl) (by decide) (by decide) (by decide) (by decide) (hb hby at_128) ?_
    rintro _ T17 L17 X17 ⟨rfl, Nq17, e17⟩
    have N_17 := Fr.app N_16 Nq17
    show Go _ _ _ _ _ _ _ T17 (mkF m 131 #[.val (.int p0), .val (.int p1), .val (.int p2), .val (.int p3), .val (.int p4), .val (.int p5), .val (.int u1), .val (.int u2), .val (.int u3), .val (.int u4), .val (.ref b5), .val (.int (1 : Int32)), .val (.int (((1 : Int32) + (own_cr u1)) + (own_lf u1))), .val (.int ((((((1 : Int32) + (own_cr u1)) + (own_lf u1)) + (own_cr u2)) + (own_lf u2)) - (own_pair u1 u2))), .val (.int (((((((((1 : Int32) + (own_cr u1)) + (own_lf u1)) + (own_cr u2)) + (own_lf u2)) - (own_pair u1 u2)) + (own_cr u3)) + (own_lf u3)) - (own_pair u2 u3))), .unset, .unset] [(.int (own_lf u4)), (.int ((((((((((1 : Int32) + (own_cr u1)) + (own_lf u1)) + (own_cr u2)) + (own_lf u2)) - (own_pair u1 u2)) + (own_cr u3)) + (own_lf u3)) - (own_pair u2 u3)) + (own_cr u4)))])
    refine gIadd X17 hx (hb hby at_131) ?_
    refine gIload X17 hx (hb hby at_132) rfl ?_
    refine gIload X17 hx (hb hby at_134) rfl ?_
    refine gStatic X17 hx hZ (y := (⟨"com/example/renkei/renkei/reader/LineCountTake326PinLaw", "pair", "(II)I"⟩ : MethodName)) hown (by decide) (tw hw 29 rfl) (tw hw 30 rfl) (tw hw 2 rfl) (tw hw 31 rfl) (own_rm3 l Z a0 hw u3 u4 T6.heap n0 Z_6) e17 (by rw [hml]; rfl) (argsL := [(.int u3), (.int u4)]) (rest := [(.int (((((((((((1 : Int32) + (own_cr u1)) + (own_lf u1)) + (own_cr u2)) + (own_lf u2)) - (own_pair u1 u2)) + (own_cr u3)) + (own_lf u3)) - (own_pair u2 u3)) + (own_cr u4)) + (own_lf u4)))]) (W := 1) (lenOf own_pd1 rfl) rfl (Nat.le_of_eq rfl) (by decide) (by decide) (by decide) (by decide) (hb hby at_136) ?_
    rintro _ T18 L18 X18 ⟨rfl, Nq18, e18⟩
    have N_18 := Fr.app N_17 Nq18
    show Go _ _ _ _ _ _ _ T18 (mkF m 139 #[.val (.int p0), .val (.int p1), .val (.int p2), .val (.int p3), .val (.int p4), .val (.int p5), .val (.int u1), .val (.int u2), .val (.int u3), .val (.int u4), .val (.ref b5), .val (.int (1 : Int32)), .val (.int (((1 : Int32) + (own_cr u1)) + (own_lf u1))), .val (.int ((((((1 : Int32) + (own_cr u1)) + (own_lf u1)) + (own_cr u2)) + (own_lf u2)) - (own_pair u1 u2))), .val (.int (((((((((1 : Int32) + (own_cr u1)) + (own_lf u1)) + (own_cr u2)) + (own_lf u2)) - (own_pair u1 u2)) + (own_cr u3)) + (own_lf u3)) - (own_pair u2 u3))), .unset, .unset] [(.int (own_pair u3 u4)), (.int (((((((((((1 : Int32) + (own_cr u1)) + (own_lf u1)) + (own_cr u2)) + (own_lf u2)) - (own_pair u1 u2)) + (own_cr u3)) + (own_lf u3)) - (own_pair u2 u3)) + (own_cr u4)) + (own_lf u4)))])
    refine gIsub X18 hx (hb hby at_139) ?_
    refine gIstore X18 hx #[.val (.int p0), .val (.int p1), .val (.int p2), .val (.int p3), .val (.int p4), .val (.int p5), .val (.int u1), .val (.int u2), .val (.int u3), .val (.int u4), .val (.ref b5), .val (.int (1 : Int32)), .val (.int (((1 : Int32) + (own_cr u1)) + (own_lf u1))), .val (.int ((((((1 : Int32) + (own_cr u1)) + (own_lf u1)) + (own_cr u2)) + (own_lf u2)) - (own_pair u1 u2))), .val (.int (((((((((1 : Int32) + (own_cr u1)) + (own_lf u1)) + (own_cr u2)) + (own_lf u2)) - (own_pair u1 u2)) + (own_cr u3)) + (own_lf u3)) - (own_pair u2 u3))), .val (.int ((((((((((((1 : Int32) + (own_cr u1)) + (own_lf u1)) + (own_cr u2)) + (own_lf u2)) - (own_pair u1 u2)) + (own_cr u3)) + (own_lf u3)) - (own_pair u2 u3)) + (own_cr u4)) + (own_lf u4)) - (own_pair u3 u4))), .unset] (hb hby at_140) rfl ?_
    refine gAload X18 hx (hb hby at_142) rfl rfl ?_
    refine gIload X18 hx (hb hby at_144) rfl ?_
    refine gVirtual X18 hx hZ (y := (⟨"com/example/renkei/renkei/reader/LineCount", "take", "(I)V"⟩ : MethodName)) (a := b5) hown (by decide) (tw hw 32 rfl) (tw hw 33 rfl) (tw hw 34 rfl) (tw hw 35 rfl) (tw hw 7 rfl) (tw hw 36 rfl) Eq6 (own_rm6 l Z a0 hw b5 u1 T6.heap n0 Z_6 (1 : Int32) (0 : Int32) Eq6 Fq6 Gq6 g_b5) e18 (by rw [hml]; rfl) (argsL := [(.int u1)]) (rest := []) (W := 0) (lenOf own_pd3 rfl) rfl (Nat.le_of_eq rfl) (by decide) (by decide) (by decide) (by decide) (hb hby at_146) ?_
    rintro _ T19 L19 X19 ⟨rfl, Nq19, Kq19, Eq19, Fq19, Gq19⟩
    have N_19 := Fr.app N_18 Nq19
    have Z_19 := Nat.le_trans Z_6 Kq19.1
    show Go _ _ _ _ _ _ _ T19 (mkF m 149 #[.val (.int p0), .val (.int p1), .val (.int p2), .val (.int p3), .val (.int p4), .val (.int p5), .val (.int u1), .val (.int u2), .val (.int u3), .val (.int u4), .val (.ref b5), .val (.int (1 : Int32)), .val (.int (((1 : Int32) + (own_cr u1)) + (own_lf u1))), .val (.int ((((((1 : Int32) + (own_cr u1)) + (own_lf u1)) + (own_cr u2)) + (own_lf u2)) - (own_pair u1 u2))), .val (.int (((((((((1 : Int32) + (own_cr u1)) + (own_lf u1)) + (own_cr u2)) + (own_lf u2)) - (own_pair u1 u2)) + (own_cr u3)) + (own_lf u3)) - (own_pair u2 u3))), .val (.int ((((((((((((1 : Int32) + (own_cr u1)) + (own_lf u1)) + (own_cr u2)) + (own_lf u2)) - (own_pair u1 u2)) + (own_cr u3)) + (own_lf u3)) - (own_pair u2 u3)) + (own_cr u4)) + (own_lf u4)) - (own_pair u3 u4))), .unset] [])
    refine gAload X19 hx (hb hby at_149) rfl rfl ?_
    refine gVirtual X19 hx hZ (y := (⟨"com/example/renkei/renkei/reader/LineCount", "line", "()I"⟩ : MethodName)) (a := b5) hown (by decide) (tw hw 37 rfl) (tw hw 38 rfl) (tw hw 39 rfl) (tw hw 40 rfl) (tw hw 7 rfl) (tw hw 41 rfl) Eq19 (own_rm7 l Z a0 hw b5 T19.heap n0 Z_19 _ _ Eq19 Fq19 Gq19 g_b5) rfl (by rw [hml]; rfl) (argsL := []) (rest := []) (W := 0) (lenOf own_pd4 rfl) rfl (Nat.le_of_eq rfl) (by decide) (by decide) (by decide) (by decide) (hb hby at_151) ?_
    rintro _ T20 L20 X20 ⟨rfl, Nq20, e20⟩
    have N_20 := Fr.app N_19 Nq20
    show Go _ _ _ _ _ _ _ T20 (mkF m 154 #[.val (.int p0), .val (.int p1), .val (.int p2), .val (.int p3), .val (.int p4), .val (.int p5), .val (.int u1), .val (.int u2), .val (.int u3), .val (.int u4), .val (.ref b5), .val (.int (1 : Int32)), .val (.int (((1 : Int32) + (own_cr u1)) + (own_lf u1))), .val (.int ((((((1 : Int32) + (own_cr u1)) + (own_lf u1)) + (own_cr u2)) + (own_lf u2)) - (own_pair u1 u2))), .val (.int (((((((((1 : Int32) + (own_cr u1)) + (own_lf u1)) + (own_cr u2)) + (own_lf u2)) - (own_pair u1 u2)) + (own_cr u3)) + (own_lf u3)) - (own_pair u2 u3))), .val (.int ((((((((((((1 : Int32) + (own_cr u1)) + (own_lf u1)) + (own_cr u2)) + (own_lf u2)) - (own_pair u1 u2)) + (own_cr u3)) + (own_lf u3)) - (own_pair u2 u3)) + (own_cr u4)) + (own_lf u4)) - (own_pair u3 u4))), .unset] [(.int (own_tl u1 (1 : Int32) (0 : Int32)))])
    refine gIload X20 hx (hb hby at_154) rfl ?_
    refine gIcmp X20 hx 163 (hb hby at_156) (by decide) (by decide) (fun q => absurd (own_e1 u1 (1 : Int32)) (o_neT q)) (fun _ => ?_)
    show Go _ _ _ _ _ _ _ T20 (mkF m 159 #[.val (.int p0), .val (.int p1), .val (.int p2), .val (.int p3), .val (.int p4), .val (.int p5), .val (.int u1), .val (.int u2), .val (.int u3), .val (.int u4), .val (.ref b5), .val (.int (1 : Int32)), .val (.int (((1 : Int32) + (own_cr u1)) + (own_lf u1))), .val (.int ((((((1 : Int32) + (own_cr u1)) + (own_lf u1)) + (own_cr u2)) + (own_lf u2)) - (own_pair u1 u2))), .val (.int (((((((((1 : Int32) + (own_cr u1)) + (own_lf u1)) + (own_cr u2)) + (own_lf u2)) - (own_pair u1 u2)) + (own_cr u3)) + (own_lf u3)) - (own_pair u2 u3))), .val (.int ((((((((((((1 : Int32) + (own_cr u1)) + (own_lf u1)) + (own_cr u2)) + (own_lf u2)) - (own_pair u1 u2)) + (own_cr u3)) + (own_lf u3)) - (own_pair u2 u3)) + (own_cr u4)) + (own_lf u4)) - (own_pair u3 u4))), .unset] [])
    refine gIconst X20 hx (1 : Int32) (hb hby at_159) rfl ?_
    refine gGoto X20 hx 164 (hb hby at_160) (by decide) (by decide) ?_
    refine gIstore X20 hx #[.val (.int p0), .val (.int p1), .val (.int p2), .val (.int p3), .val (.int p4), .val (.int p5), .val (.int u1), .val (.int u2), .val (.int u3), .val (.int u4), .val (.ref b5), .val (.int (1 : Int32)), .val (.int (((1 : Int32) + (own_cr u1)) + (own_lf u1))), .val (.int ((((((1 : Int32) + (own_cr u1)) + (own_lf u1)) + (own_cr u2)) + (own_lf u2)) - (own_pair u1 u2))), .val (.int (((((((((1 : Int32) + (own_cr u1)) + (own_lf u1)) + (own_cr u2)) + (own_lf u2)) - (own_pair u1 u2)) + (own_cr u3)) + (own_lf u3)) - (own_pair u2 u3))), .val (.int ((((((((((((1 : Int32) + (own_cr u1)) + (own_lf u1)) + (own_cr u2)) + (own_lf u2)) - (own_pair u1 u2)) + (own_cr u3)) + (own_lf u3)) - (own_pair u2 u3)) + (own_cr u4)) + (own_lf u4)) - (own_pair u3 u4))), .val (.int (1 : Int32))] (hb hby at_164) rfl ?_
    refine gAload X20 hx (hb hby at_166) rfl rfl ?_
    refine gIload X20 hx (hb hby at_168) rfl ?_
    refine gVirtual X20 hx hZ (y := (⟨"com/example/renkei/renkei/reader/LineCount", "take", "(I)V"⟩ : MethodName)) (a := b5) hown (by decide) (tw hw 32 rfl) (tw hw 33 rfl) (tw hw 34 rfl) (tw hw 35 rfl) (tw hw 7 rfl) (tw hw 36 rfl) Eq19 (own_rm6 l Z a0 hw b5 u2 T19.heap n0 Z_19 (own_tl u1 (1 : Int32) (0 : Int32)) (own_tb u1) Eq19 Fq19 Gq19 g_b5) e20 (by rw [hml]; rfl) (argsL := [(.int u2)]) (rest := []) (W := 0) (lenOf own_pd3 rfl) rfl (Nat.le_of_eq rfl) (by decide) (by decide) (by decide) (by decide) (hb hby at_170) ?_
    rintro _ T21 L21 X21 ⟨rfl, Nq21, Kq21, Eq21, Fq21, Gq21⟩
    have N_21 := Fr.app N_20 Nq21
    have Z_21 := Nat.le_trans Z_19 Kq21.1
    show Go _ _ _ _ _ _ _ T21 (mkF m 173 #[.val (.int p0), .val (.int p1), .val (.int p2), .val (.int p3), .val (.int p4), .val (.int p5), .val (.int u1), .val (.int u2), .val (.int u3), .val (.int u4), .val (.ref b5), .val (.int (1 : Int32)), .val (.int (((1 : Int32) + (own_cr u1)) + (own_lf u1))), .val (.int ((((((1 : Int32) + (own_cr u1)) + (own_lf u1)) + (own_cr u2)) + (own_lf u2)) - (own_pair u1 u2))), .val (.int (((((((((1 : Int32) + (own_cr u1)) + (own_lf u1)) + (own_cr u2)) + (own_lf u2)) - (own_pair u1 u2)) + (own_cr u3)) + (own_lf u3)) - (own_pair u2 u3))), .val (.int ((((((((((((1 : Int32) + (own_cr u1)) + (own_lf u1)) + (own_cr u2)) + (own_lf u2)) - (own_pair u1 u2)) + (own_cr u3)) + (own_lf u3)) - (own_pair u2 u3)) + (own_cr u4)) + (own_lf u4)) - (own_pair u3 u4))), .val (.int (1 : Int32))] [])
    refine gIload X21 hx (hb hby at_173) rfl ?_
    refine gIf X21 hx 192 (hb hby at_175) (by decide) (by decide) (fun q => absurd (o_eqT q) (by decide)) (fun _ => ?_)
    show Go _ _ _ _ _ _ _ T21 (mkF m 178 #[.val (.int p0), .val (.int p1), .val (.int p2), .val (.int p3), .val (.int p4), .val (.int p5), .val (.int u1), .val (.int u2), .val (.int u3), .val (.int u4), .val (.ref b5), .val (.int (1 : Int32)), .val (.int (((1 : Int32) + (own_cr u1)) + (own_lf u1))), .val (.int ((((((1 : Int32) + (own_cr u1)) + (own_lf u1)) + (own_cr u2)) + (own_lf u2)) - (own_pair u1 u2))), .val (.int (((((((((1 : Int32) + (own_cr u1)) + (own_lf u1)) + (own_cr u2)) + (own_lf u2)) - (own_pair u1 u2)) + (own_cr u3)) + (own_lf u3)) - (own_pair u2 u3))), .val (.int ((((((((((((1 : Int32) + (own_cr u1)) + (own_lf u1)) + (own_cr u2)) + (own_lf u2)) - (own_pair u1 u2)) + (own_cr u3)) + (own_lf u3)) - (own_pair u2 u3)) + (own_cr u4)) + (own_lf u4)) - (own_pair u3 u4))), .val (.int (1 : Int32))] [])
    refine gAload X21 hx (hb hby at_178) rfl rfl ?_
    refine gVirtual X21 hx hZ (y := (⟨"com/example/renkei/renkei/reader/LineCount", "line", "()I"⟩ : MethodName)) (a := b5) hown (by decide) (tw hw 37 rfl) (tw hw 38 rfl) (tw hw 39 rfl) (tw hw 40 rfl) (tw hw 7 rfl) (tw hw 41 rfl) Eq21 (own_rm7 l Z a0 hw b5 T21.heap n0 Z_21 _ _ Eq21 Fq21 Gq21 g_b5) rfl (by rw [hml]; rfl) (argsL := []) (rest := []) (W := 0) (lenOf own_pd4 rfl) rfl (Nat.le_of_eq rfl) (by decide) (by decide) (by decide) (by decide) (hb hby at_180) ?_
    rintro _ T22 L22 X22 ⟨rfl, Nq22, e22⟩
    have N_22 := Fr.app N_21 Nq22
    show Go _ _ _ _ _ _ _ T22 (mkF m 183 #[.val (.int p0), .val (.int p1), .val (.int p2), .val (.int p3), .val (.int p4), .val (.int p5), .val (.int u1), .val (.int u2), .val (.int u3), .val (.int u4), .val (.ref b5), .val (.int (1 : Int32)), .val (.int (((1 : Int32) + (own_cr u1)) + (own_lf u1))), .val (.int ((((((1 : Int32) + (own_cr u1)) + (own_lf u1)) + (own_cr u2)) + (own_lf u2)) - (own_pair u1 u2))), .val (.int (((((((((1 : Int32) + (own_cr u1)) + (own_lf u1)) + (own_cr u2)) + (own_lf u2)) - (own_pair u1 u2)) + (own_cr u3)) + (own_lf u3)) - (own_pair u2 u3))), .val (.int ((((((((((((1 : Int32) + (own_cr u1)) + (own_lf u1)) + (own_cr u2)) + (own_lf u2)) - (own_pair u1 u2)) + (own_cr u3)) + (own_lf u3)) - (own_pair u2 u3)) + (own_cr u4)) + (own_lf u4)) - (own_pair u3 u4))), .val (.int (1 : Int32))] [(.int (own_tl u2 (own_tl u1 (1 : Int32) (0 : Int32)) (own_tb u1)))])
    refine gIload X22 hx (hb hby at_183) rfl ?_
    refine gIcmp X22 hx 192 (hb hby at_185) (by decide) (by decide) (fun q => absurd (own_st u1 u2 (own_e1 u1 (1 : Int32))) (o_neT q)) (fun _ => ?_)
    show Go _ _ _ _ _ _ _ T22 (mkF m 188 #[.val (.int p0), .val (.int p1), .val (.int p2), .val (.int p3), .val (.int p4), .val (.int p5), .val (.int u1), .val (.int u2), .val (.int u3), .val (.int u4), .val (.ref b5), .val (.int (1 : Int32)), .val (.int (((1 : Int32) + (own_cr u1)) + (own_lf u1))), .val (.int ((((((1 : Int32) + (own_cr u1)) + (own_lf u1)) + (own_cr u2)) + (own_lf u2)) - (own_pair u1 u2))), .val (.int (((((((((1 : Int32) + (own_cr u1)) + (own_lf u1)) + (own_cr u2)) + (own_lf u2)) - (own_pair u1 u2)) + (own_cr u3)) + (own_lf u3)) - (own_pair u2 u3))), .val (.int ((((((((((((1 : Int32) + (own_cr u1)) + (own_lf u1)) + (own_cr u2)) + (own_lf u2)) - (own_pair u1 u2)) + (own_cr u3)) + (own_lf u3)) - (own_pair u2 u3)) + (own_cr u4)) + (own_lf u4)) - (own_pair u3 u4))), .val (.int (1 : Int32))] [])
    refine gIconst X22 hx (1 : Int32) (hb hby at_188) rfl ?_
    refine gGoto X22 hx 193 (hb hby at_189) (by decide) (by decide) ?_
    refine gIstore X22 hx #[.val (.int p0), .val (.int p1), .val (.int p2), .val (.int p3), .val (.int p4), .val (.int p5), .val (.int u1), .val (.int u2), .val (.int u3), .val (.int u4), .val (.ref b5), .val (.int (1 : Int32)), .val (.int (((1 : Int32) + (own_cr u1)) + (own_lf u1))), .val (.int ((((((1 : Int32) + (own_cr u1)) + (own_lf u1)) + (own_cr u2)) + (own_lf u2)) - (own_pair u1 u2))), .val (.int (((((((((1 : Int32) + (own_cr u1)) + (own_lf u1)) + (own_cr u2)) + (own_lf u2)) - (own_pair u1 u2)) + (own_cr u3)) + (own_lf u3)) - (own_pair u2 u3))), .val (.int ((((((((((((1 : Int32) + (own_cr u1)) + (own_lf u1)) + (own_cr u2)) + (own_lf u2)) - (own_pair u1 u2)) + (own_cr u3)) + (own_lf u3)) - (own_pair u2 u3)) + (own_cr u4)) + (own_lf u4)) - (own_pair u3 u4))), .val (.int (1 : Int32))] (hb hby at_193) rfl ?_
    refine gAload X22 hx (hb hby at_195) rfl rfl ?_
    refine gIload X22 hx (hb hby at_197) rfl ?_
    refine gVirtual X22 hx hZ (y := (⟨"com/example/renkei/renkei/reader/LineCount", "take", "(I)V"⟩ : MethodName)) (a := b5) hown (by decide) (tw hw 32 rfl) (tw hw 33 rfl) (tw hw 34 rfl) (tw hw 35 rfl) (tw hw 7 rfl) (tw hw 36 rfl) Eq21 (own_rm6 l Z a0 hw b5 u3 T21.heap n0 Z_21 (own_tl u2 (own_tl u1 (1 : Int32) (0 : Int32)) (own_tb u1)) (own_tb u2) Eq21 Fq21 Gq21 g_b5) e22 (by rw [hml]; rfl) (argsL := [(.int u3)]) (rest := []) (W := 0) (lenOf own_pd3 rfl) rfl (Nat.le_of_eq rfl) (by decide) (by decide) (by decide) (by decide) (hb hby at_199) ?_
    rintro _ T23 L23 X23 ⟨rfl, Nq23, Kq23, Eq23, Fq23, Gq23⟩
    have N_23 := Fr.app N_22 Nq23
    have Z_23 := Nat.le_trans Z_21 Kq23.1
    show Go _ _ _ _ _ _ _ T23 (mkF m 202 #[.val (.int p0), .val (.int p1), .val (.int p2), .val (.int p3), .val (.int p4), .val (.int p5), .val (.int u1), .val (.int u2), .val (.int u3), .val (.int u4), .val (.ref b5), .val (.int (1 : Int32)), .val (.int (((1 : Int32) + (own_cr u1)) + (own_lf u1))), .val (.int ((((((1 : Int32) + (own_cr u1)) + (own_lf u1)) + (own_cr u2)) + (own_lf u2)) - (own_pair u1 u2))), .val (.int (((((((((1 : Int32) + (own_cr u1)) + (own_lf u1)) + (own_cr u2)) + (own_lf u2)) - (own_pair u1 u2)) + (own_cr u3)) + (own_lf u3)) - (own_pair u2 u3))), .val (.int ((((((((((((1 : Int32) + (own_cr u1)) + (own_lf u1)) + (own_cr u2)) + (own_lf u2)) - (own_pair u1 u2)) + (own_cr u3)) + (own_lf u3)) - (own_pair u2 u3)) + (own_cr u4)) + (own_lf u4)) - (own_pair u3 u4))), .val (.int (1 : Int32))] [])
    refine gIload X23 hx (hb hby at_202) rfl ?_
    refine gIf X23 hx 221 (hb hby at_204) (by decide) (by decide) (fun q => absurd (o_eqT q) (by decide)) (fun _ => ?_)
    show Go _ _ _ _ _ _ _ T23 (mkF m 207 #[.val (.int p0), .val (.int p1), .val (.int p2), .val (.int p3), .val (.int p4), .val (.int p5), .val (.int u1), .val (.int u2), .val (.int u3), .val (.int u4), .val (.ref b5), .val (.int (1 : Int32)), .val (.int (((1 : Int32) + (own_cr u1)) + (own_lf u1))), .val (.int ((((((1 : Int32) + (own_cr u1)) + (own_lf u1)) + (own_cr u2)) + (own_lf u2)) - (own_pair u1 u2))), .val (.int (((((((((1 : Int32) + (own_cr u1)) + (own_lf u1)) + (own_cr u2)) + (own_lf u2)) - (own_pair u1 u2)) + (own_cr u3)) + (own_lf u3)) - (own_pair u2 u3))), .val (.int ((((((((((((1 : Int32) + (own_cr u1)) + (own_lf u1)) + (own_cr u2)) + (own_lf u2)) - (own_pair u1 u2)) + (own_cr u3)) + (own_lf u3)) - (own_pair u2 u3)) + (own_cr u4)) + (own_lf u4)) - (own_pair u3 u4))), .val (.int (1 : Int32))] [])
    refine gAload X23 hx (hb hby at_207) rfl rfl ?_
    refine gVirtual X23 hx hZ (y := (⟨"com/example/renkei/renkei/reader/LineCount", "line", "()I"⟩ : MethodName)) (a := b5) hown (by decide) (tw hw 37 rfl) (tw hw 38 rfl) (tw hw 39 rfl) (tw hw 40 rfl) (tw hw 7 rfl) (tw hw 41 rfl) Eq23 (own_rm7 l Z a0 hw b5 T23.heap n0 Z_23 _ _ Eq23 Fq23 Gq23 g_b5) rfl (by rw [hml]; rfl) (argsL := []) (rest := []) (W := 0) (lenOf own_pd4 rfl) rfl (Nat.le_of_eq rfl) (by decide) (by decide) (by decide) (by decide) (hb hby at_209) ?_
    rintro _ T24 L24 X24 ⟨rfl, Nq24, e24⟩
    have N_24 := Fr.app N_23 Nq24
    show Go _ _ _ _ _ _ _ T24 (mkF m 212 #[.val (.int p0), .val (.int p1), .val (.int p2), .val (.int p3), .val (.int p4), .val (.int p5), .val (.int u1), .val (.int u2), .val (.int u3), .val (.int u4), .val (.ref b5), .val (.int (1 : Int32)), .val (.int (((1 : Int32) + (own_cr u1)) + (own_lf u1))), .val (.int ((((((1 : Int32) + (own_cr u1)) + (own_lf u1)) + (own_cr u2)) + (own_lf u2)) - (own_pair u1 u2))), .val (.int (((((((((1 : Int32) + (own_cr u1)) + (own_lf u1)) + (own_cr u2)) + (own_lf u2)) - (own_pair u1 u2)) + (own_cr u3)) + (own_lf u3)) - (own_pair u2 u3))), .val (.int ((((((((((((1 : Int32) + (own_cr u1)) + (own_lf u1)) + (own_cr u2)) + (own_lf u2)) - (own_pair u1 u2)) + (own_cr u3)) + (own_lf u3)) - (own_pair u2 u3)) + (own_cr u4)) + (own_lf u4)) - (own_pair u3 u4))), .val (.int (1 : Int32))] [(.int (own_tl u3 (own_tl u2 (own_tl u1 (1 : Int32) (0 : Int32)) (own_tb u1)) (own_tb u2)))])
    refine gIload X24 hx (hb hby at_212) rfl ?_
    refine gIcmp X24 hx 221 (hb hby at_214) (by decide) (by decide) (fun q => absurd (own_st u2 u3 (own_st u1 u2 (own_e1 u1 (1 : Int32)))) (o_neT q)) (fun _ => ?_)
    show Go _ _ _ _ _ _ _ T24 (mkF m 217 #[.val (.int p0), .val (.int p1), .val (.int p2), .val (.int p3), .val (.int p4), .val (.int p5), .val (.int u1), .val (.int u2), .val (.int u3), .val (.int u4), .val (.ref b5), .val (.int (1 : Int32)), .val (.int (((1 : Int32) + (own_cr u1)) + (own_lf u1))), .val (.int ((((((1 : Int32) + (own_cr u1)) + (own_lf u1)) + (own_cr u2)) + (own_lf u2)) - (own_pair u1 u2))), .val (.int (((((((((1 : Int32) + (own_cr u1)) + (own_lf u1)) + (own_cr u2)) + (own_lf u2)) - (own_pair u1 u2)) + (own_cr u3)) + (own_lf u3)) - (own_pair u2 u3))), .val (.int ((((((((((((1 : Int32) + (own_cr u1)) + (own_lf u1)) + (own_cr u2)) + (own_lf u2)) - (own_pair u1 u2)) + (own_cr u3)) + (own_lf u3)) - (own_pair u2 u3)) + (own_cr u4)) + (own_lf u4)) - (own_pair u3 u4))), .val (.int (1 : Int32))] [])
    refine gIconst X24 hx (1 : Int32) (hb hby at_217) rfl ?_
    refine gGoto X24 hx 222 (hb hby at_218) (by decide) (by decide) ?_
    refine gIstore X24 hx #[.val (.int p0), .val (.int p1), .val (.int p2), .val (.int p3), .val (.int p4), .val (.int p5), .val (.int u1), .val (.int u2), .val (.int u3), .val (.int u4), .val (.ref b5), .val (.int (1 : Int32)), .val (.int (((1 : Int32) + (own_cr u1)) + (own_lf u1))), .val (.int ((((((1 : Int32) + (own_cr u1)) + (own_lf u1)) + (own_cr u2)) + (own_lf u2)) - (own_pair u1 u2))), .val (.int (((((((((1 : Int32) + (own_cr u1)) + (own_lf u1)) + (own_cr u2)) + (own_lf u2)) - (own_pair u1 u2)) + (own_cr u3)) + (own_lf u3)) - (own_pair u2 u3))), .val (.int ((((((((((((1 : Int32) + (own_cr u1)) + (own_lf u1)) + (own_cr u2)) + (own_lf u2)) - (own_pair u1 u2)) + (own_cr u3)) + (own_lf u3)) - (own_pair u2 u3)) + (own_cr u4)) + (own_lf u4)) - (own_pair u3 u4))), .val (.int (1 : Int32))] (hb hby at_222) rfl ?_
    refine gAload X24 hx (hb hby at_224) rfl rfl ?_
    refine gIload X24 hx (hb hby at_226) rfl ?_
    refine gVirtual X24 hx hZ (y := (⟨"com/example/renkei/renkei/reader/LineCount", "take", "(I)V"⟩ : MethodName)) (a := b5) hown (by decide) (tw hw 32 rfl) (tw hw 33 rfl) (tw hw 34 rfl) (tw hw 35 rfl) (tw hw 7 rfl) (tw hw 36 rfl) Eq23 (own_rm6 l Z a0 hw b5 u4 T23.heap n0 Z_23 (own_tl u3 (own_tl u2 (own_tl u1 (1 : Int32) (0 : Int32)) (own_tb u1)) (own_tb u2)) (own_tb u3) Eq23 Fq23 Gq23 g_b5) e24 (by rw [hml]; rfl) (argsL := [(.int u4)]) (rest := []) (W := 0) (lenOf own_pd3 rfl) rfl (Nat.le_of_eq rfl) (by decide) (by decide) (by decide) (by decide) (hb hby at_228) ?_
    rintro _ T25 L25 X25 ⟨rfl, Nq25, Kq25, Eq25, Fq25, Gq25⟩
    have N_25 := Fr.app N_24 Nq25
    have Z_25 := Nat.le_trans Z_23 Kq25.1
    show Go _ _ _ _ _ _ _ T25 (mkF m 231 #[.val (.int p0), .val (.int p1), .val (.int p2), .val (.int p3), .val (.int p4), .val (.int p5), .val (.int u1), .val (.int u2), .val (.int u3), .val (.int u4), .val (.ref b5), .val (.int (1 : Int32)), .val (.int (((1 : Int32) + (own_cr u1)) + (own_lf u1))), .val (.int ((((((1 : Int32) + (own_cr u1)) + (own_lf u1)) + (own_cr u2)) + (own_lf u2)) - (own_pair u1 u2))), .val (.int (((((((((1 : Int32) + (own_cr u1)) + (own_lf u1)) + (own_cr u2)) + (own_lf u2)) - (own_pair u1 u2)) + (own_cr u3)) + (own_lf u3)) - (own_pair u2 u3))), .val (.int ((((((((((((1 : Int32) + (own_cr u1)) + (own_lf u1)) + (own_cr u2)) + (own_lf u2)) - (own_pair u1 u2)) + (own_cr u3)) + (own_lf u3)) - (own_pair u2 u3)) + (own_cr u4)) + (own_lf u4)) - (own_pair u3 u4))), .val (.int (1 : Int32))] [])
    refine gIload X25 hx (hb hby at_231) rfl ?_
    refine gIf X25 hx 250 (hb hby at_233) (by decide) (by decide) (fun q => absurd (o_eqT q) (by decide)) (fun _ => ?_)
    show Go _ _ _ _ _ _ _ T25 (mkF m 236 #[.val (.int p0), .val (.int p1), .val (.int p2), .val (.int p3), .val (.int p4), .val (.int p5), .val (.int u1), .val (.int u2), .val (.int u3), .val (.int u4), .val (.ref b5), .val (.int (1 : Int32)), .val (.int (((1 : Int32) + (own_cr u1)) + (own_lf u1))), .val (.int ((((((1 : Int32) + (own_cr u1)) + (own_lf u1)) + (own_cr u2)) + (own_lf u2)) - (own_pair u1 u2))), .val (.int (((((((((1 : Int32) + (own_cr u1)) + (own_lf u1)) + (own_cr u2)) + (own_lf u2)) - (own_pair u1 u2)) + (own_cr u3)) + (own_lf u3)) - (own_pair u2 u3))), .val (.int ((((((((((((1 : Int32) + (own_cr u1)) + (own_lf u1)) + (own_cr u2)) + (own_lf u2)) - (own_pair u1 u2)) + (own_cr u3)) + (own_lf u3)) - (own_pair u2 u3)) + (own_cr u4)) + (own_lf u4)) - (own_pair u3 u4))), .val (.int (1 : Int32))] [])
    refine gAload X25 hx (hb hby at_236) rfl rfl ?_
    refine gVirtual X25 hx hZ (y := (⟨"com/example/renkei/renkei/reader/LineCount", "line", "()I"⟩ : MethodName)) (a := b5) hown (by decide) (tw hw 37 rfl) (tw hw 38 rfl) (tw hw 39 rfl) (tw hw 40 rfl) (tw hw 7 rfl) (tw hw 41 rfl) Eq25 (own_rm7 l Z a0 hw b5 T25.heap n0 Z_25 _ _ Eq25 Fq25 Gq25 g_b5) rfl (by rw [hml]; rfl) (argsL := []) (rest := []) (W := 0) (lenOf own_pd4 rfl) rfl (Nat.le_of_eq rfl) (by decide) (by decide) (by decide) (by decide) (hb hby at_238) ?_
    rintro _ T26 L26 X26 ⟨rfl, Nq26, e26⟩
    have N_26 := Fr.app N_25 Nq26
    show Go _ _ _ _ _ _ _ T26 (mkF m 241 #[.val (.int p0), .val (.int p1), .val (.int p2), .val (.int p3), .val (.int p4), .val (.int p5), .val (.int u1), .val (.int u2), .val (.int u3), .val (.int u4), .val (.ref b5), .val (.int (1 : Int32)), .val (.int (((1 : Int32) + (own_cr u1)) + (own_lf u1))), .val (.int ((((((1 : Int32) + (own_cr u1)) + (own_lf u1)) + (own_cr u2)) + (own_lf u2)) - (own_pair u1 u2))), .val (.int (((((((((1 : Int32) + (own_cr u1)) + (own_lf u1)) + (own_cr u2)) + (own_lf u2)) - (own_pair u1 u2)) + (own_cr u3)) + (own_lf u3)) - (own_pair u2 u3))), .val (.int ((((((((((((1 : Int32) + (own_cr u1)) + (own_lf u1)) + (own_cr u2)) + (own_lf u2)) - (own_pair u1 u2)) + (own_cr u3)) + (own_lf u3)) - (own_pair u2 u3)) + (own_cr u4)) + (own_lf u4)) - (own_pair u3 u4))), .val (.int (1 : Int32))] [(.int (own_tl u4 (own_tl u3 (own_tl u2 (own_tl u1 (1 : Int32) (0 : Int32)) (own_tb u1)) (own_tb u2)) (own_tb u3)))])
    refine gIload X26 hx (hb hby at_241) rfl ?_
    refine gIcmp X26 hx 250 (hb hby at_243) (by decide) (by decide) (fun q => absurd (own_st u3 u4 (own_st u2 u3 (own_st u1 u2 (own_e1 u1 (1 : Int32))))) (o_neT q)) (fun _ => ?_)
    show Go _ _ _ _ _ _ _ T26 (mkF m 246 #[.val (.int p0), .val (.int p1), .val (.int p2), .val (.int p3), .val (.int p4), .val (.int p5), .val (.int u1), .val (.int u2), .val (.int u3), .val (.int u4), .val (.ref b5), .val (.int (1 : Int32)), .val (.int (((1 : Int32) + (own_cr u1)) + (own_lf u1))), .val (.int ((((((1 : Int32) + (own_cr u1)) + (own_lf u1)) + (own_cr u2)) + (own_lf u2)) - (own_pair u1 u2))), .val (.int (((((((((1 : Int32) + (own_cr u1)) + (own_lf u1)) + (own_cr u2)) + (own_lf u2)) - (own_pair u1 u2)) + (own_cr u3)) + (own_lf u3)) - (own_pair u2 u3))), .val (.int ((((((((((((1 : Int32) + (own_cr u1)) + (own_lf u1)) + (own_cr u2)) + (own_lf u2)) - (own_pair u1 u2)) + (own_cr u3)) + (own_lf u3)) - (own_pair u2 u3)) + (own_cr u4)) + (own_lf u4)) - (own_pair u3 u4))), .val (.int (1 : Int32))] [])
    refine gIconst X26 hx (1 : Int32) (hb hby at_246) rfl ?_
    refine gGoto X26 hx 251 (hb hby at_247) (by decide) (by decide) ?_
    refine gIstore X26 hx #[.val (.int p0), .val (.int p1), .val (.int p2), .val (.int p3), .val (.int p4), .val (.int p5), .val (.int u1), .val (.int u2), .val (.int u3), .val (.int u4), .val (.ref b5), .val (.int (1 : Int32)), .val (.int (((1 : Int32) + (own_cr u1)) + (own_lf u1))), .val (.int ((((((1 : Int32) + (own_cr u1)) + (own_lf u1)) + (own_cr u2)) + (own_lf u2)) - (own_pair u1 u2))), .val (.int (((((((((1 : Int32) + (own_cr u1)) + (own_lf u1)) + (own_cr u2)) + (own_lf u2)) - (own_pair u1 u2)) + (own_cr u3)) + (own_lf u3)) - (own_pair u2 u3))), .val (.int ((((((((((((1 : Int32) + (own_cr u1)) + (own_lf u1)) + (own_cr u2)) + (own_lf u2)) - (own_pair u1 u2)) + (own_cr u3)) + (own_lf u3)) - (own_pair u2 u3)) + (own_cr u4)) + (own_lf u4)) - (own_pair u3 u4))), .val (.int (1 : Int32))] (hb hby at_251) rfl ?_
    refine gIload X26 hx (hb hby at_253) rfl ?_
    exact gRetZ X26 hx hlk hret (by simp) (hb hby at_255) (z' := (1 : Int32)) rfl (by decide) (by decide) ⟨rfl, N_26⟩
  · have hc7 := o_eqF hT
    show Go _ _ _ _ _ _ _ T6 (mkF m 43 #[.val (.int p0), .val (.int p1), .val (.int p2), .val (.int p3), .val (.int p4), .val (.int p5), .val (.int u1), .val (.int u2), .val (.int u3), .val (.int u4), .val (.ref b5), .val (.int (1 : Int32)), .unset, .unset, .unset, .unset, .unset] [])
    refine gAload X6 hx (hb hby at_43) rfl rfl ?_
    refine gIload X6 hx (hb hby at_45) rfl ?_
    refine gVirtual X6 hx hZ (y := (⟨"com/example/renkei/renkei/reader/LineCount", "set", "(I)V"⟩ : MethodName)) (a := b5) hown (by decide) (tw hw 16 rfl) (tw hw 17 rfl) (tw hw 18 rfl) (tw hw 19 rfl) (tw hw 7 rfl) (tw hw 20 rfl) Eq6 (own_rm5 l Z a0 hw b5 p4 T6.heap n0 Z_6 (1 : Int32) (0 : Int32) Eq6 Fq6 Gq6 g_b5) rfl (by rw [hml]; rfl) (argsL := [(.int p4)]) (rest := []) (W := 0) (lenOf own_pd3 rfl) rfl (Nat.le_of_eq rfl) (by decide) (by decide) (by decide) (by decide) (hb hby at_47) ?_
    rintro _ T27 L27 X27 ⟨rfl, Nq27, Kq27, Eq27, Fq27, Gq27⟩
    have N_27 := Fr.app N_6 Nq27
    have Z_27 := Nat.le_trans Z_6 Kq27.1
    show Go _ _ _ _ _ _ _ T27 (mkF m 50 #[.val (.int p0), .val (.int p1), .val (.int p2), .val (.int p3), .val (.int p4), .val (.int p5), .val (.int u1), .val (.int u2), .val (.int u3), .val (.int u4), .val (.ref b5), .val (.int (1 : Int32)), .unset, .unset, .unset, .unset, .unset] [])
    refine gIload X27 hx (hb hby at_50) rfl ?_
    refine gIstore X27 hx #[.val (.int p0), .val (.int p1), .val (.int p2), .val (.int p3), .val (.int p4), .val (.int p5), .val (.int u1), .val (.int u2), .val (.int u3), .val (.int u4), .val (.ref b5), .val (.int p4), .unset, .unset, .unset, .unset, .unset] (hb hby at_52) rfl ?_
    refine gIload X27 hx (hb hby at_54) rfl ?_
    refine gIload X27 hx (hb hby at_56) rfl ?_
    refine gStatic X27 hx hZ (y := (⟨"com/example/renkei/renkei/reader/LineCountTake326PinLaw", "cr", "(I)I"⟩ : MethodName)) hown (by decide) (tw hw 23 rfl) (tw hw 24 rfl) (tw hw 2 rfl) (tw hw 25 rfl) (own_rm1 l Z a0 hw u1 T27.heap n0 Z_27) rfl (by rw [hml]; rfl) (argsL := [(.int u1)]) (rest := [(.int p4)]) (W := 1) (lenOf own_pd0 rfl) rfl (Nat.le_of_eq rfl) (by decide) (by decide) (by decide) (by decide) (hb hby at_58) ?_
    rintro _ T28 L28 X28 ⟨rfl, Nq28, e28⟩
    have N_28 := Fr.app N_27 Nq28
    show Go _ _ _ _ _ _ _ T28 (mkF m 61 #[.val (.int p0), .val (.int p1), .val (.int p2), .val (.int p3), .val (.int p4), .val (.int p5), .val (.int u1), .val (.int u2), .val (.int u3), .val (.int u4), .val (.ref b5), .val (.int p4), .unset, .unset, .unset, .unset, .unset] [(.int (own_cr u1)), (.int p4)])
    refine gIadd X28 hx (hb hby at_61) ?_
    refine gIload X28 hx (hb hby at_62) rfl ?_
    refine gStatic X28 hx hZ (y := (⟨"com/example/renkei/renkei/reader/LineCountTake326PinLaw", "lf", "(I)I"⟩ : MethodName)) hown (by decide) (tw hw 26 rfl) (tw hw 27 rfl) (tw hw 2 rfl) (tw hw 28 rfl) (own_rm2 l Z a0 hw u1 T27.heap n0 Z_27) e28 (by rw [hml]; rfl) (argsL := [(.int u1)]) (rest := [(.int (p4 + (own_cr u1)))]) (W := 1) (lenOf own_pd0 rfl) rfl (Nat.le_of_eq rfl) (by decide) (by decide) (by decide) (by decide) (hb hby at_64) ?_
    rintro _ T29 L29 X29 ⟨rfl, Nq29, e29⟩
    have N_29 := Fr.app N_28 Nq29
    show Go _ _ _ _ _ _ _ T29 (mkF m 67 #[.val (.int p0), .val (.int p1), .val (.int p2), .val (.int p3), .val (.int p4), .val (.int p5), .val (.int u1), .val (.int u2), .val (.int u3), .val (.int u4), .val (.ref b5), .val (.int p4), .unset, .unset, .unset, .unset, .unset] [(.int (own_lf u1)), (.int (p4 + (own_cr u1)))])
    refine gIadd X29 hx (hb hby at_67) ?_
    refine gIstore X29 hx #[.val (.int p0), .val (.int p1), .val (.int p2), .val (.int p3), .val (.int p4), .val (.int p5), .val (.int u1), .val (.int u2), .val (.int u3), .val (.int u4), .val (.ref b5), .val (.int p4), .val (.int ((p4 + (own_cr u1)) + (own_lf u1))), .unset, .unset, .unset, .unset] (hb hby at_68) rfl ?_
    refine gIload X29 hx (hb hby at_70) rfl ?_
    refine gIload X29 hx (hb hby at_72) rfl ?_
    refine gStatic X29 hx hZ (y := (⟨"com/example/renkei/renkei/reader/LineCountTake326PinLaw", "cr", "(I)I"⟩ : MethodName)) hown (by decide) (tw hw 23 rfl) (tw hw 24 rfl) (tw hw 2 rfl) (tw hw 25 rfl) (own_rm1 l Z a0 hw u2 T27.heap n0 Z_27) e29 (by rw [hml]; rfl) (argsL := [(.int u2)]) (rest := [(.int ((p4 + (own_cr u1)) + (own_lf u1)))]) (W := 1) (lenOf own_pd0 rfl) rfl (Nat.le_of_eq rfl) (by decide) (by decide) (by decide) (by decide) (hb hby at_74) ?_
    rintro _ T30 L30 X30 ⟨rfl, Nq30, e30⟩
    have N_30 := Fr.app N_29 Nq30
    show Go _ _ _ _ _ _ _ T30 (mkF m 77 #[.val (.int p0), .val (.int p1), .val (.int p2), .val (.int p3), .val (.int p4), .val (.int p5), .val (.int u1), .val (.int u2), .val (.int u3), .val (.int u4), .val (.ref b5), .val (.int p4), .val (.int ((p4 + (own_cr u1)) + (own_lf u1))), .unset, .unset, .unset, .unset] [(.int (own_cr u2)), (.int ((p4 + (own_cr u1)) + (own_lf u1)))])
    refine gIadd X30 hx (hb hby at_77) ?_
    refine gIload X30 hx (hb hby at_78) rfl ?_
    refine gStatic X30 hx hZ (y := (⟨"com/example/renkei/renkei/reader/LineCountTake326PinLaw", "lf", "(I)I"⟩ : MethodName)) hown (by decide) (tw hw 26 rfl) (tw hw 27 rfl) (tw hw 2 rfl) (tw hw 28 rfl) (own_rm2 l Z a0 hw u2 T27.heap n0 Z_27) e30 (by rw [hml]; rfl) (argsL := [(.int u2)]) (rest := [(.int (((p4 + (own_cr u1)) + (own_lf u1)) + (own_cr u2)))]) (W := 1) (lenOf own_pd0 rfl) rfl (Nat.le_of_eq rfl) (by decide) (by decide) (by decide) (by decide) (hb hby at_80) ?_
    rintro _ T31 L31 X31 ⟨rfl, Nq31, e31⟩
    have N_31 := Fr.app N_30 Nq31
    show Go _ _ _ _ _ _ _ T31 (mkF m 83 #[.val (.int p0), .val (.int p1), .val (.int p2), .val (.int p3), .val (.int p4), .val (.int p5), .val (.int u1), .val (.int u2), .val (.int u3), .val (.int u4), .val (.ref b5), .val (.int p4), .val (.int ((p4 + (own_cr u1)) + (own_lf u1))), .unset, .unset, .unset, .unset] [(.int (own_lf u2)), (.int (((p4 + (own_cr u1)) + (own_lf u1)) + (own_cr u2)))])
    refine gIadd X31 hx (hb hby at_83) ?_
    refine gIload X31 hx (hb hby at_84) rfl ?_
    refine gIload X31 hx (hb hby at_86) rfl ?_
    refine gStatic X31 hx hZ (y := (⟨"com/example/renkei/renkei/reader/LineCountTake326PinLaw", "pair", "(II)I"⟩ : MethodName)) hown (by decide) (tw hw 29 rfl) (tw hw 30 rfl) (tw hw 2 rfl) (tw hw 31 rfl) (own_rm3 l Z a0 hw u1 u2 T27.heap n0 Z_27) e31 (by rw [hml]; rfl) (argsL := [(.int u1), (.int u2)]) (rest := [(.int ((((p4 + (own_cr u1)) + (own_lf u1)) + (own_cr u2)) + (own_lf u2)))]) (W := 1) (lenOf own_pd1 rfl) rfl (Nat.le_of_eq rfl) (by decide) (by decide) (by decide) (by decide) (hb hby at_88) ?_
    rintro _ T32 L32 X32 ⟨rfl, Nq32, e32⟩
    have N_32 := Fr.app N_31 Nq32
    show Go _ _ _ _ _ _ _ T32 (mkF m 91 #[.val (.int p0), .val (.int p1), .val (.int p2), .val (.int p3), .val (.int p4), .val (.int p5), .val (.int u1), .val (.int u2), .val (.int u3), .val (.int u4), .val (.ref b5), .val (.int p4), .val (.int ((p4 + (own_cr u1)) + (own_lf u1))), .unset, .unset, .unset, .unset] [(.int (own_pair u1 u2)), (.int ((((p4 + (own_cr u1)) + (own_lf u1)) + (own_cr u2)) + (own_lf u2)))])
    refine gIsub X32 hx (hb hby at_91) ?_
    refine gIstore X32 hx #[.val (.int p0), .val (.int p1), .val (.int p2), .val (.int p3), .val (.int p4), .val (.int p5), .val (.int u1), .val (.int u2), .val (.int u3), .val (.int u4), .val (.ref b5), .val (.int p4), .val (.int ((p4 + (own_cr u1)) + (own_lf u1))), .val (.int (((((p4 + (own_cr u1)) + (own_lf u1)) + (own_cr u2)) + (own_lf u2)) - (own_pair u1 u2))), .unset, .unset, .unset] (hb hby at_92) rfl ?_
    refine gIload X32 hx (hb hby at_94) rfl ?_
    refine gIload X32 hx (hb hby at_96) rfl ?_
    refine gStatic X32 hx hZ (y := (⟨"com/example/renkei/renkei/reader/LineCountTake326PinLaw", "cr", "(I)I"⟩ : MethodName)) hown (by decide) (tw hw 23 rfl) (tw hw 24 rfl) (tw hw 2 rfl) (tw hw 25 rfl) (own_rm1 l Z a0 hw u3 T27.heap n0 Z_27) e32 (by rw [hml]; rfl) (argsL := [(.int u3)]) (rest := [(.int (((((p4 + (own_cr u1)) + (own_lf u1)) + (own_cr u2)) + (own_lf u2)) - (own_pair u1 u2)))]) (W := 1) (lenOf own_pd0 rfl) rfl (Nat.le_of_eq rfl) (by decide) (by decide) (by decide) (by decide) (hb hby at_98) ?_
    rintro _ T33 L33 X33 ⟨rfl, Nq33, e33⟩
    have N_33 := Fr.app N_32 Nq33
    show Go _ _ _ _ _ _ _ T33 (mkF m 101 #[.val (.int p0), .val (.int p1), .val (.int p2), .val (.int p3), .val (.int p4), .val (.int p5), .val (.int u1), .val (.int u2), .val (.int u3), .val (.int u4), .val (.ref b5), .val (.int p4), .val (.int ((p4 + (own_cr u1)) + (own_lf u1))), .val (.int (((((p4 + (own_cr u1)) + (own_lf u1)) + (own_cr u2)) + (own_lf u2)) - (own_pair u1 u2))), .unset, .unset, .unset] [(.int (own_cr u3)), (.int (((((p4 + (own_cr u1)) + (own_lf u1)) + (own_cr u2)) + (own_lf u2)) - (own_pair u1 u2)))])
    refine gIadd X33 hx (hb hby at_101) ?_
    refine gIload X33 hx (hb hby at_102) rfl ?_
    refine gStatic X33 hx hZ (y := (⟨"com/example/renkei/renkei/reader/LineCountTake326PinLaw", "lf", "(I)I"⟩ : MethodName)) hown (by decide) (tw hw 26 rfl) (tw hw 27 rfl) (tw hw 2 rfl) (tw hw 28 rfl) (own_rm2 l Z a0 hw u3 T27.heap n0 Z_27) e33 (by rw [hml]; rfl) (argsL := [(.int u3)]) (rest := [(.int ((((((p4 + (own_cr u1)) + (own_lf u1)) + (own_cr u2)) + (own_lf u2)) - (own_pair u1 u2)) + (own_cr u3)))]) (W := 1) (lenOf own_pd0 rfl) rfl (Nat.le_of_eq rfl) (by decide) (by decide) (by decide) (by decide) (hb hby at_104) ?_
    rintro _ T34 L34 X34 ⟨rfl, Nq34, e34⟩
    have N_34 := Fr.app N_33 Nq34
    show Go _ _ _ _ _ _ _ T34 (mkF m 107 #[.val (.int p0), .val (.int p1), .val (.int p2), .val (.int p3), .val (.int p4), .val (.int p5), .val (.int u1), .val (.int u2), .val (.int u3), .val (.int u4), .val (.ref b5), .val (.int p4), .val (.int ((p4 + (own_cr u1)) + (own_lf u1))), .val (.int (((((p4 + (own_cr u1)) + (own_lf u1)) + (own_cr u2)) + (own_lf u2)) - (own_pair u1 u2))), .unset, .unset, .unset] [(.int (own_lf u3)), (.int ((((((p4 + (own_cr u1)) + (own_lf u1)) + (own_cr u2)) + (own_lf u2)) - (own_pair u1 u2)) + (own_cr u3)))])
    refine gIadd X34 hx (hb hby at_107) ?_
    refine gIload X34 hx (hb hby at_108) rfl ?_
    refine gIload X34 hx (hb hby at_110) rfl ?_
    refine gStatic X34 hx hZ (y := (⟨"com/example/renkei/renkei/reader/LineCountTake326PinLaw", "pair", "(II)I"⟩ : MethodName)) hown (by decide) (tw hw 29 rfl) (tw hw 30 rfl) (tw hw 2 rfl) (tw hw 31 rfl) (own_rm3 l Z a0 hw u2 u3 T27.heap n0 Z_27) e34 (by rw [hml]; rfl) (argsL := [(.int u2), (.int u3)]) (rest := [(.int (((((((p4 + (own_cr u1)) + (own_lf u1)) + (own_cr u2)) + (own_lf u2)) - (own_pair u1 u2)) + (own_cr u3)) + (own_lf u3)))]) (W := 1) (lenOf own_pd1 rfl) rfl (Nat.le_of_eq rfl) (by decide) (by decide) (by decide) (by decide) (hb hby at_112) ?_
    rintro _ T35 L35 X35 ⟨rfl, Nq35, e35⟩
    have N_35 := Fr.app N_34 Nq35
    show Go _ _ _ _ _ _ _ T35 (mkF m 115 #[.val (.int p0), .val (.int p1), .val (.int p2), .val (.int p3), .val (.int p4), .val (.int p5), .val (.int u1), .val (.int u2), .val (.int u3), .val (.int u4), .val (.ref b5), .val (.int p4), .val (.int ((p4 + (own_cr u1)) + (own_lf u1))), .val (.int (((((p4 + (own_cr u1)) + (own_lf u1)) + (own_cr u2)) + (own_lf u2)) - (own_pair u1 u2))), .unset, .unset, .unset] [(.int (own_pair u2 u3)), (.int (((((((p4 + (own_cr u1)) + (own_lf u1)) + (own_cr u2)) + (own_lf u2)) - (own_pair u1 u2)) + (own_cr u3)) + (own_lf u3)))])
    refine gIsub X35 hx (hb hby at_115) ?_
    refine gIstore X35 hx #[.val (.int p0), .val (.int p1), .val (.int p2), .val (.int p3), .val (.int p4), .val (.int p5), .val (.int u1), .val (.int u2), .val (.int u3), .val (.int u4), .val (.ref b5), .val (.int p4), .val (.int ((p4 + (own_cr u1)) + (own_lf u1))), .val (.int (((((p4 + (own_cr u1)) + (own_lf u1)) + (own_cr u2)) + (own_lf u2)) - (own_pair u1 u2))), .val (.int ((((((((p4 + (own_cr u1)) + (own_lf u1)) + (own_cr u2)) + (own_lf u2)) - (own_pair u1 u2)) + (own_cr u3)) + (own_lf u3)) - (own_pair u2 u3))), .unset, .unset] (hb hby at_116) rfl ?_
    refine gIload X35 hx (hb hby at_118) rfl ?_
    refine gIload X35 hx (hb hby at_120) rfl ?_
    refine gStatic X35 hx hZ (y := (⟨"com/example/renkei/renkei/reader/LineCountTake326PinLaw", "cr", "(I)I"⟩ : MethodName)) hown (by decide) (tw hw 23 rfl) (tw hw 24 rfl) (tw hw 2 rfl) (tw hw 25 rfl) (own_rm1 l Z a0 hw u4 T27.heap n0 Z_27) e35 (by rw [hml]; rfl) (argsL := [(.int u4)]) (rest := [(.int ((((((((p4 + (own_cr u1)) + (own_lf u1)) + (own_cr u2)) + (own_lf u2)) - (own_pair u1 u2)) + (own_cr u3)) + (own_lf u3)) - (own_pair u2 u3)))]) (W := 1) (lenOf own_pd0 rfl) rfl (Nat.le_of_eq rfl) (by decide) (by decide) (by decide) (by decide) (hb hby at_122) ?_
    rintro _ T36 L36 X36 ⟨rfl, Nq36, e36⟩
    have N_36 := Fr.app N_35 Nq36
    show Go _ _ _ _ _ _ _ T36 (mkF m 125 #[.val (.int p0), .val (.int p1), .val (.int p2), .val (.int p3), .val (.int p4), .val (.int p5), .val (.int u1), .val (.int u2), .val (.int u3), .val (.int u4), .val (.ref b5), .val (.int p4), .val (.int ((p4 + (own_cr u1)) + (own_lf u1))), .val (.int (((((p4 + (own_cr u1)) + (own_lf u1)) + (own_cr u2)) + (own_lf u2)) - (own_pair u1 u2))), .val (.int ((((((((p4 + (own_cr u1)) + (own_lf u1)) + (own_cr u2)) + (own_lf u2)) - (own_pair u1 u2)) + (own_cr u3)) + (own_lf u3)) - (own_pair u2 u3))), .unset, .unset] [(.int (own_cr u4)), (.int ((((((((p4 + (own_cr u1)) + (own_lf u1)) + (own_cr u2)) + (own_lf u2)) - (own_pair u1 u2)) + (own_cr u3)) + (own_lf u3)) - (own_pair u2 u3)))])
    refine gIadd X36 hx (hb hby at_125) ?_
    refine gIload X36 hx (hb hby at_126) rfl ?_
    refine gStatic X36 hx hZ (y := (⟨"com/example/renkei/renkei/reader/LineCountTake326PinLaw", "lf", "(I)I"⟩ : MethodName)) hown (by decide) (tw hw 26 rfl) (tw hw 27 rfl) (tw hw 2 rfl) (tw hw 28 rfl) (own_rm2 l Z a0 hw u4 T27.heap n0 Z_27) e36 (by rw [hml]; rfl) (argsL := [(.int u4)]) (rest := [(.int (((((((((p4 + (own_cr u1)) + (own_lf u1)) + (own_cr u2)) + (own_lf u2)) - (own_pair u1 u2)) + (own_cr u3)) + (own_lf u3)) - (own_pair u2 u3)) + (own_cr u4)))]) (W := 1) (lenOf own_pd0 rfl) rfl (Nat.le_of_eq rfl) (by decide) (by decide) (by decide) (by decide) (hb hby at_128) ?_
    rintro _ T37 L37 X37 ⟨rfl, Nq37, e37⟩
    have N_37 := Fr.app N_36 Nq37
    show Go _ _ _ _ _ _ _ T37 (mkF m 131 #[.val (.int p0), .val (.int p1), .val (.int p2), .val (.int p3), .val (.int p4), .val (.int p5), .val (.int u1), .val (.int u2), .val (.int u3), .val (.int u4), .val (.ref b5), .val (.int p4), .val (.int ((p4 + (own_cr u1)) + (own_lf u1))), .val (.int (((((p4 + (own_cr u1)) + (own_lf u1)) + (own_cr u2)) + (own_lf u2)) - (own_pair u1 u2))), .val (.int ((((((((p4 + (own_cr u1)) + (own_lf u1)) + (own_cr u2)) + (own_lf u2)) - (own_pair u1 u2)) + (own_cr u3)) + (own_lf u3)) - (own_pair u2 u3))), .unset, .unset] [(.int (own_lf u4)), (.int (((((((((p4 + (own_cr u1)) + (own_lf u1)) + (own_cr u2)) + (own_lf u2)) - (own_pair u1 u2)) + (own_cr u3)) + (own_lf u3)) - (own_pair u2 u3)) + (own_cr u4)))])
    refine gIadd X37 hx (hb hby at_131) ?_
    refine gIload X37 hx (hb hby at_132) rfl ?_
    refine gIload X37 hx (hb hby at_134) rfl ?_
    refine gStatic X37 hx hZ (y := (⟨"com/example/renkei/renkei/reader/LineCountTake326PinLaw", "pair", "(II)I"⟩ : MethodName)) hown (by decide) (tw hw 29 rfl) (tw hw 30 rfl) (tw hw 2 rfl) (tw hw 31 rfl) (own_rm3 l Z a0 hw u3 u4 T27.heap n0 Z_27) e37 (by rw [hml]; rfl) (argsL := [(.int u3), (.int u4)]) (rest := [(.int ((((((((((p4 + (own_cr u1)) + (own_lf u1)) + (own_cr u2)) + (own_lf u2)) - (own_pair u1 u2)) + (own_cr u3)) + (own_lf u3)) - (own_pair u2 u3)) + (own_cr u4)) + (own_lf u4)))]) (W := 1) (lenOf own_pd1 rfl) rfl (Nat.le_of_eq rfl) (by decide) (by decide) (by decide) (by decide) (hb hby at_136) ?_
    rintro _ T38 L38 X38 ⟨rfl, Nq38, e38⟩
    have N_38 := Fr.app N_37 Nq38
    show Go _ _ _ _ _ _ _ T38 (mkF m 139 #[.val (.int p0), .val (.int p1), .val (.int p2), .val (.int p3), .val (.int p4), .val (.int p5), .val (.int u1), .val (.int u2), .val (.int u3), .val (.int u4), .val (.ref b5), .val (.int p4), .val (.int ((p4 + (own_cr u1)) + (own_lf u1))), .val (.int (((((p4 + (own_cr u1)) + (own_lf u1)) + (own_cr u2)) + (own_lf u2)) - (own_pair u1 u2))), .val (.int ((((((((p4 + (own_cr u1)) + (own_lf u1)) + (own_cr u2)) + (own_lf u2)) - (own_pair u1 u2)) + (own_cr u3)) + (own_lf u3)) - (own_pair u2 u3))), .unset, .unset] [(.int (own_pair u3 u4)), (.int ((((((((((p4 + (own_cr u1)) + (own_lf u1)) + (own_cr u2)) + (own_lf u2)) - (own_pair u1 u2)) + (own_cr u3)) + (own_lf u3)) - (own_pair u2 u3)) + (own_cr u4)) + (own_lf u4)))])
    refine gIsub X38 hx (hb hby at_139) ?_
    refine gIstore X38 hx #[.val (.int p0), .val (.int p1), .val (.int p2), .val (.int p3), .val (.int p4), .val (.int p5), .val (.int u1), .val (.int u2), .val (.int u3), .val (.int u4), .val (.ref b5), .val (.int p4), .val (.int ((p4 + (own_cr u1)) + (own_lf u1))), .val (.int (((((p4 + (own_cr u1)) + (own_lf u1)) + (own_cr u2)) + (own_lf u2)) - (own_pair u1 u2))), .val (.int ((((((((p4 + (own_cr u1)) + (own_lf u1)) + (own_cr u2)) + (own_lf u2)) - (own_pair u1 u2)) + (own_cr u3)) + (own_lf u3)) - (own_pair u2 u3))), .val (.int (((((((((((p4 + (own_cr u1)) + (own_lf u1)) + (own_cr u2)) + (own_lf u2)) - (own_pair u1 u2)) + (own_cr u3)) + (own_lf u3)) - (own_pair u2 u3)) + (own_cr u4)) + (own_lf u4)) - (own_pair u3 u4))), .unset] (hb hby at_140) rfl ?_
    refine gAload X38 hx (hb hby at_142) rfl rfl ?_
    refine gIload X38 hx (hb hby at_144) rfl ?_
    refine gVirtual X38 hx hZ (y := (⟨"com/example/renkei/renkei/reader/LineCount", "take", "(I)V"⟩ : MethodName)) (a := b5) hown (by decide) (tw hw 32 rfl) (tw hw 33 rfl) (tw hw 34 rfl) (tw hw 35 rfl) (tw hw 7 rfl) (tw hw 36 rfl) Eq27 (own_rm6 l Z a0 hw b5 u1 T27.heap n0 Z_27 p4 (0 : Int32) Eq27 Fq27 Gq27 g_b5) e38 (by rw [hml]; rfl) (argsL := [(.int u1)]) (rest := []) (W := 0) (lenOf own_pd3 rfl) rfl (Nat.le_of_eq rfl) (by decide) (by decide) (by decide) (by decide) (hb hby at_146) ?_
    rintro _ T39 L39 X39 ⟨rfl, Nq39, Kq39, Eq39, Fq39, Gq39⟩
    have N_39 := Fr.app N_38 Nq39
    have Z_39 := Nat.le_trans Z_27 Kq39.1
    show Go _ _ _ _ _ _ _ T39 (mkF m 149 #[.val (.int p0), .val (.int p1), .val (.int p2), .val (.int p3), .val (.int p4), .val (.int p5), .val (.int u1), .val (.int u2), .val (.int u3), .val (.int u4), .val (.ref b5), .val (.int p4), .val (.int ((p4 + (own_cr u1)) + (own_lf u1))), .val (.int (((((p4 + (own_cr u1)) + (own_lf u1)) + (own_cr u2)) + (own_lf u2)) - (own_pair u1 u2))), .val (.int ((((((((p4 + (own_cr u1)) + (own_lf u1)) + (own_cr u2)) + (own_lf u2)) - (own_pair u1 u2)) + (own_cr u3)) + (own_lf u3)) - (own_pair u2 u3))), .val (.int (((((((((((p4 + (own_cr u1)) + (own_lf u1)) + (own_cr u2)) + (own_lf u2)) - (own_pair u1 u2)) + (own_cr u3)) + (own_lf u3)) - (own_pair u2 u3)) + (own_cr u4)) + (own_lf u4)) - (own_pair u3 u4))), .unset] [])
    refine gAload X39 hx (hb hby at_149) rfl rfl ?_
    refine gVirtual X39 hx hZ (y := (⟨"com/example/renkei/renkei/reader/LineCount", "line", "()I"⟩ : MethodName)) (a := b5) hown (by decide) (tw hw 37 rfl) (tw hw 38 rfl) (tw hw 39 rfl) (tw hw 40 rfl) (tw hw 7 rfl) (tw hw 41 rfl) Eq39 (own_rm7 l Z a0 hw b5 T39.heap n0 Z_39 _ _ Eq39 Fq39 Gq39 g_b5) rfl (by rw [hml]; rfl) (argsL := []) (rest := []) (W := 0) (lenOf own_pd4 rfl) rfl (Nat.le_of_eq rfl) (by decide) (by decide) (by decide) (by decide) (hb hby at_151) ?_
    rintro _ T40 L40 X40 ⟨rfl, Nq40, e40⟩
    have N_40 := Fr.app N_39 Nq40
    show Go _ _ _ _ _ _ _ T40 (mkF m 154 #[.val (.int p0), .val (.int p1), .val (.int p2), .val (.int p3), .val (.int p4), .val (.int p5), .val (.int u1), .val (.int u2), .val (.int u3), .val (.int u4), .val (.ref b5), .val (.int p4), .val (.int ((p4 + (own_cr u1)) + (own_lf u1))), .val (.int (((((p4 + (own_cr u1)) + (own_lf u1)) + (own_cr u2)) + (own_lf u2)) - (own_pair u1 u2))), .val (.int ((((((((p4 + (own_cr u1)) + (own_lf u1)) + (own_cr u2)) + (own_lf u2)) - (own_pair u1 u2)) + (own_cr u3)) + (own_lf u3)) - (own_pair u2 u3))), .val (.int (((((((((((p4 + (own_cr u1)) + (own_lf u1)) + (own_cr u2)) + (own_lf u2)) - (own_pair u1 u2)) + (own_cr u3)) + (own_lf u3)) - (own_pair u2 u3)) + (own_cr u4)) + (own_lf u4)) - (own_pair u3 u4))), .unset] [(.int (own_tl u1 p4 (0 : Int32)))])
    refine gIload X40 hx (hb hby at_154) rfl ?_
    refine gIcmp X40 hx 163 (hb hby at_156) (by decide) (by decide) (fun q => absurd (own_e1 u1 p4) (o_neT q)) (fun _ => ?_)
    show Go _ _ _ _ _ _ _ T40 (mkF m 159 #[.val (.int p0), .val (.int p1), .val (.int p2), .val (.int p3), .val (.int p4), .val (.int p5), .val (.int u1), .val (.int u2), .val (.int u3), .val (.int u4), .val (.ref b5), .val (.int p4), .val (.int ((p4 + (own_cr u1)) + (own_lf u1))), .val (.int (((((p4 + (own_cr u1)) + (own_lf u1)) + (own_cr u2)) + (own_lf u2)) - (own_pair u1 u2))), .val (.int ((((((((p4 + (own_cr u1)) + (own_lf u1)) + (own_cr u2)) + (own_lf u2)) - (own_pair u1 u2)) + (own_cr u3)) + (own_lf u3)) - (own_pair u2 u3))), .val (.int (((((((((((p4 + (own_cr u1)) + (own_lf u1)) + (own_cr u2)) + (own_lf u2)) - (own_pair u1 u2)) + (own_cr u3)) + (own_lf u3)) - (own_pair u2 u3)) + (own_cr u4)) + (own_lf u4)) - (own_pair u3 u4))), .unset] [])
    refine gIconst X40 hx (1 : Int32) (hb hby at_159) rfl ?_
    refine gGoto X40 hx 164 (hb hby at_160) (by decide) (by decide) ?_
    refine gIstore X40 hx #[.val (.int p0), .val (.int p1), .val (.int p2), .val (.int p3), .val (.int p4), .val (.int p5), .val (.int u1), .val (.int u2), .val (.int u3), .val (.int u4), .val (.ref b5), .val (.int p4), .val (.int ((p4 + (own_cr u1)) + (own_lf u1))), .val (.int (((((p4 + (own_cr u1)) + (own_lf u1)) + (own_cr u2)) + (own_lf u2)) - (own_pair u1 u2))), .val (.int ((((((((p4 + (own_cr u1)) + (own_lf u1)) + (own_cr u2)) + (own_lf u2)) - (own_pair u1 u2)) + (own_cr u3)) + (own_lf u3)) - (own_pair u2 u3))), .val (.int (((((((((((p4 + (own_cr u1)) + (own_lf u1)) + (own_cr u2)) + (own_lf u2)) - (own_pair u1 u2)) + (own_cr u3)) + (own_lf u3)) - (own_pair u2 u3)) + (own_cr u4)) + (own_lf u4)) - (own_pair u3 u4))), .val (.int (1 : Int32))] (hb hby at_164) rfl ?_
    refine gAload X40 hx (hb hby at_166) rfl rfl ?_
    refine gIload X40 hx (hb hby at_168) rfl ?_
    refine gVirtual X40 hx hZ (y := (⟨"com/example/renkei/renkei/reader/LineCount", "take", "(I)V"⟩ : MethodName)) (a := b5) hown (by decide) (tw hw 32 rfl) (tw hw 33 rfl) (tw hw 34 rfl) (tw hw 35 rfl) (tw hw 7 rfl) (tw hw 36 rfl) Eq39 (own_rm6 l Z a0 hw b5 u2 T39.heap n0 Z_39 (own_tl u1 p4 (0 : Int32)) (own_tb u1) Eq39 Fq39 Gq39 g_b5) e40 (by rw [hml]; rfl) (argsL := [(.int u2)]) (rest := []) (W := 0) (lenOf own_pd3 rfl) rfl (Nat.le_of_eq rfl) (by decide) (by decide) (by decide) (by decide) (hb hby at_170) ?_
    rintro _ T41 L41 X41 ⟨rfl, Nq41, Kq41, Eq41, Fq41, Gq41⟩
    have N_41 := Fr.app N_40 Nq41
    have Z_41 := Nat.le_trans Z_39 Kq41.1
    show Go _ _ _ _ _ _ _ T41 (mkF m 173 #[.val (.int p0), .val (.int p1), .val (.int p2), .val (.int p3), .val (.int p4), .val (.int p5), .val (.int u1), .val (.int u2), .val (.int u3), .val (.int u4), .val (.ref b5), .val (.int p4), .val (.int ((p4 + (own_cr u1)) + (own_lf u1))), .val (.int (((((p4 + (own_cr u1)) + (own_lf u1)) + (own_cr u2)) + (own_lf u2)) - (own_pair u1 u2))), .val (.int ((((((((p4 + (own_cr u1)) + (own_lf u1)) + (own_cr u2)) + (own_lf u2)) - (own_pair u1 u2)) + (own_cr u3)) + (own_lf u3)) - (own_pair u2 u3))), .val (.int (((((((((((p4 + (own_cr u1)) + (own_lf u1)) + (own_cr u2)) + (own_lf u2)) - (own_pair u1 u2)) + (own_cr u3)) + (own_lf u3)) - (own_pair u2 u3)) + (own_cr u4)) + (own_lf u4)) - (own_pair u3 u4))), .val (.int (1 : Int32))] [])
    refine gIload X41 hx (hb hby at_173) rfl ?_
    refine gIf X41 hx 192 (hb hby at_175) (by decide) (by decide) (fun q => absurd (o_eqT q) (by decide)) (fun _ => ?_)
    show Go _ _ _ _ _ _ _ T41 (mkF m 178 #[.val (.int p0), .val (.int p1), .val (.int p2), .val (.int p3), .val (.int p4), .val (.int p5), .val (.int u1), .val (.int u2), .val (.int u3), .val (.int u4), .val (.ref b5), .val (.int p4), .val (.int ((p4 + (own_cr u1)) + (own_lf u1))), .val (.int (((((p4 + (own_cr u1)) + (own_lf u1)) + (own_cr u2)) + (own_lf u2)) - (own_pair u1 u2))), .val (.int ((((((((p4 + (own_cr u1)) + (own_lf u1)) + (own_cr u2)) + (own_lf u2)) - (own_pair u1 u2)) + (own_cr u3)) + (own_lf u3)) - (own_pair u2 u3))), .val (.int (((((((((((p4 + (own_cr u1)) + (own_lf u1)) + (own_cr u2)) + (own_lf u2)) - (own_pair u1 u2)) + (own_cr u3)) + (own_lf u3)) - (own_pair u2 u3)) + (own_cr u4)) + (own_lf u4)) - (own_pair u3 u4))), .val (.int (1 : Int32))] [])
    refine gAload X41 hx (hb hby at_178) rfl rfl ?_
    refine gVirtual X41 hx hZ (y := (⟨"com/example/renkei/renkei/reader/LineCount", "line", "()I"⟩ : MethodName)) (a := b5) hown (by decide) (tw hw 37 rfl) (tw hw 38 rfl) (tw hw 39 rfl) (tw hw 40 rfl) (tw hw 7 rfl) (tw hw 41 rfl) Eq41 (own_rm7 l Z a0 hw b5 T41.heap n0 Z_41 _ _ Eq41 Fq41 Gq41 g_b5) rfl (by rw [hml]; rfl) (argsL := []) (rest := []) (W := 0) (lenOf own_pd4 rfl) rfl (Nat.le_of_eq rfl) (by decide) (by decide) (by decide) (by decide) (hb hby at_180) ?_
    rintro _ T42 L42 X42 ⟨rfl, Nq42, e42⟩
    have N_42 := Fr.app N_41 Nq42
    show Go _ _ _ _ _ _ _ T42 (mkF m 183 #[.val (.int p0), .val (.int p1), .val (.int p2), .val (.int p3), .val (.int p4), .val (.int p5), .val (.int u1), .val (.int u2), .val (.int u3), .val (.int u4), .val (.ref b5), .val (.int p4), .val (.int ((p4 + (own_cr u1)) + (own_lf u1))), .val (.int (((((p4 + (own_cr u1)) + (own_lf u1)) + (own_cr u2)) + (own_lf u2)) - (own_pair u1 u2))), .val (.int ((((((((p4 + (own_cr u1)) + (own_lf u1)) + (own_cr u2)) + (own_lf u2)) - (own_pair u1 u2)) + (own_cr u3)) + (own_lf u3)) - (own_pair u2 u3))), .val (.int (((((((((((p4 + (own_cr u1)) + (own_lf u1)) + (own_cr u2)) + (own_lf u2)) - (own_pair u1 u2)) + (own_cr u3)) + (own_lf u3)) - (own_pair u2 u3)) + (own_cr u4)) + (own_lf u4)) - (own_pair u3 u4))), .val (.int (1 : Int32))] [(.int (own_tl u2 (own_tl u1 p4 (0 : Int32)) (own_tb u1)))])
    refine gIload X42 hx (hb hby at_183) rfl ?_
    refine gIcmp X42 hx 192 (hb hby at_185) (by decide) (by decide) (fun q => absurd (own_st u1 u2 (own_e1 u1 p4)) (o_neT q)) (fun _ => ?_)
    show Go _ _ _ _ _ _ _ T42 (mkF m 188 #[.val (.int p0), .val (.int p1), .val (.int p2), .val (.int p3), .val (.int p4), .val (.int p5), .val (.int u1), .val (.int u2), .val (.int u3), .val (.int u4), .val (.ref b5), .val (.int p4), .val (.int ((p4 + (own_cr u1)) + (own_lf u1))), .val (.int (((((p4 + (own_cr u1)) + (own_lf u1)) + (own_cr u2)) + (own_lf u2)) - (own_pair u1 u2))), .val (.int ((((((((p4 + (own_cr u1)) + (own_lf u1)) + (own_cr u2)) + (own_lf u2)) - (own_pair u1 u2)) + (own_cr u3)) + (own_lf u3)) - (own_pair u2 u3))), .val (.int (((((((((((p4 + (own_cr u1)) + (own_lf u1)) + (own_cr u2)) + (own_lf u2)) - (own_pair u1 u2)) + (own_cr u3)) + (own_lf u3)) - (own_pair u2 u3)) + (own_cr u4)) + (own_lf u4)) - (own_pair u3 u4))), .val (.int (1 : Int32))] [])
    refine gIconst X42 hx (1 : Int32) (hb hby at_188) rfl ?_
    refine gGoto X42 hx 193 (hb hby at_189) (by decide) (by decide) ?_
    refine gIstore X42 hx #[.val (.int p0), .val (.int p1), .val (.int p2), .val (.int p3), .val (.int p4), .val (.int p5), .val (.int u1), .val (.int u2), .val (.int u3), .val (.int u4), .val (.ref b5), .val (.int p4), .val (.int ((p4 + (own_cr u1)) + (own_lf u1))), .val (.int (((((p4 + (own_cr u1)) + (own_lf u1)) + (own_cr u2)) + (own_lf u2)) - (own_pair u1 u2))), .val (.int ((((((((p4 + (own_cr u1)) + (own_lf u1)) + (own_cr u2)) + (own_lf u2)) - (own_pair u1 u2)) + (own_cr u3)) + (own_lf u3)) - (own_pair u2 u3))), .val (.int (((((((((((p4 + (own_cr u1)) + (own_lf u1)) + (own_cr u2)) + (own_lf u2)) - (own_pair u1 u2)) + (own_cr u3)) + (own_lf u3)) - (own_pair u2 u3)) + (own_cr u4)) + (own_lf u4)) - (own_pair u3 u4))), .val (.int (1 : Int32))] (hb hby at_193) rfl ?_
    refine gAload X42 hx (hb hby at_195) rfl rfl ?_
    refine gIload X42 hx (hb hby at_197) rfl ?_
    refine gVirtual X42 hx hZ (y := (⟨"com/example/renkei/renkei/reader/LineCount", "take", "(I)V"⟩ : MethodName)) (a := b5) hown (by decide) (tw hw 32 rfl) (tw hw 33 rfl) (tw hw 34 rfl) (tw hw 35 rfl) (tw hw 7 rfl) (tw hw 36 rfl) Eq41 (own_rm6 l Z a0 hw b5 u3 T41.heap n0 Z_41 (own_tl u2 (own_tl u1 p4 (0 : Int32)) (own_tb u1)) (own_tb u2) Eq41 Fq41 Gq41 g_b5) e42 (by rw [hml]; rfl) (argsL := [(.int u3)]) (rest := []) (W := 0) (lenOf own_pd3 rfl) rfl (Nat.le_of_eq rfl) (by decide) (by decide) (by decide) (by decide) (hb hby at_199) ?_
    rintro _ T43 L43 X43 ⟨rfl, Nq43, Kq43, Eq43, Fq43, Gq43⟩
    have N_43 := Fr.app N_42 Nq43
    have Z_43 := Nat.le_trans Z_41 Kq43.1
    show Go _ _ _ _ _ _ _ T43 (mkF m 202 #[.val (.int p0), .val (.int p1), .val (.int p2), .val (.int p3), .val (.int p4), .val (.int p5), .val (.int u1), .val (.int u2), .val (.int u3), .val (.int u4), .val (.ref b5), .val (.int p4), .val (.int ((p4 + (own_cr u1)) + (own_lf u1))), .val (.int (((((p4 + (own_cr u1)) + (own_lf u1)) + (own_cr u2)) + (own_lf u2)) - (own_pair u1 u2))), .val (.int ((((((((p4 + (own_cr u1)) + (own_lf u1)) + (own_cr u2)) + (own_lf u2)) - (own_pair u1 u2)) + (own_cr u3)) + (own_lf u3)) - (own_pair u2 u3))), .val (.int (((((((((((p4 + (own_cr u1)) + (own_lf u1)) + (own_cr u2)) + (own_lf u2)) - (own_pair u1 u2)) + (own_cr u3)) + (own_lf u3)) - (own_pair u2 u3)) + (own_cr u4)) + (own_lf u4)) - (own_pair u3 u4))), .val (.int (1 : Int32))] [])
    refine gIload X43 hx (hb hby at_202) rfl ?_
    refine gIf X43 hx 221 (hb hby at_204) (by decide) (by decide) (fun q => absurd (o_eqT q) (by decide)) (fun _ => ?_)
    show Go _ _ _ _ _ _ _ T43 (mkF m 207 #[.val (.int p0), .val (.int p1), .val (.int p2), .val (.int p3), .val (.int p4), .val (.int p5), .val (.int u1), .val (.int u2), .val (.int u3), .val (.int u4), .val (.ref b5), .val (.int p4), .val (.int ((p4 + (own_cr u1)) + (own_lf u1))), .val (.int (((((p4 + (own_cr u1)) + (own_lf u1)) + (own_cr u2)) + (own_lf u2)) - (own_pair u1 u2))), .val (.int ((((((((p4 + (own_cr u1)) + (own_lf u1)) + (own_cr u2)) + (own_lf u2)) - (own_pair u1 u2)) + (own_cr u3)) + (own_lf u3)) - (own_pair u2 u3))), .val (.int (((((((((((p4 + (own_cr u1)) + (own_lf u1)) + (own_cr u2)) + (own_lf u2)) - (own_pair u1 u2)) + (own_cr u3)) + (own_lf u3)) - (own_pair u2 u3)) + (own_cr u4)) + (own_lf u4)) - (own_pair u3 u4))), .val (.int (1 : Int32))] [])
    refine gAload X43 hx (hb hby at_207) rfl rfl ?_
    refine gVirtual X43 hx hZ (y := (⟨"com/example/renkei/renkei/reader/LineCount", "line", "()I"⟩ : MethodName)) (a := b5) hown (by decide) (tw hw 37 rfl) (tw hw 38 rfl) (tw hw 39 rfl) (tw hw 40 rfl) (tw hw 7 rfl) (tw hw 41 rfl) Eq43 (own_rm7 l Z a0 hw b5 T43.heap n0 Z_43 _ _ Eq43 Fq43 Gq43 g_b5) rfl (by rw [hml]; rfl) (argsL := []) (rest := []) (W := 0) (lenOf own_pd4 rfl) rfl (Nat.le_of_eq rfl) (by decide) (by decide) (by decide) (by decide) (hb hby at_209) ?_
    rintro _ T44 L44 X44 ⟨rfl, Nq44, e44⟩
    have N_44 := Fr.app N_43 Nq44
    show Go _ _ _ _ _ _ _ T44 (mkF m 212 #[.val (.int p0), .val (.int p1), .val (.int p2), .val (.int p3), .val (.int p4), .val (.int p5), .val (.int u1), .val (.int u2), .val (.int u3), .val (.int u4), .val (.ref b5), .val (.int p4), .val (.int ((p4 + (own_cr u1)) + (own_lf u1))), .val (.int (((((p4 + (own_cr u1)) + (own_lf u1)) + (own_cr u2)) + (own_lf u2)) - (own_pair u1 u2))), .val (.int ((((((((p4 + (own_cr u1)) + (own_lf u1)) + (own_cr u2)) + (own_lf u2)) - (own_pair u1 u2)) + (own_cr u3)) + (own_lf u3)) - (own_pair u2 u3))), .val (.int (((((((((((p4 + (own_cr u1)) + (own_lf u1)) + (own_cr u2)) + (own_lf u2)) - (own_pair u1 u2)) + (own_cr u3)) + (own_lf u3)) - (own_pair u2 u3)) + (own_cr u4)) + (own_lf u4)) - (own_pair u3 u4))), .val (.int (1 : Int32))] [(.int (own_tl u3 (own_tl u2 (own_tl u1 p4 (0 : Int32)) (own_tb u1)) (own_tb u2)))])
    refine gIload X44 hx (hb hby at_212) rfl ?_
    refine gIcmp X44 hx 221 (hb hby at_214) (by decide) (by decide) (fun q => absurd (own_st u2 u3 (own_st u1 u2 (own_e1 u1 p4))) (o_neT q)) (fun _ => ?_)
    show Go _ _ _ _ _ _ _ T44 (mkF m 217 #[.val (.int p0), .val (.int p1), .val (.int p2), .val (.int p3), .val (.int p4), .val (.int p5), .val (.int u1), .val (.int u2), .val (.int u3), .val (.int u4), .val (.ref b5), .val (.int p4), .val (.int ((p4 + (own_cr u1)) + (own_lf u1))), .val (.int (((((p4 + (own_cr u1)) + (own_lf u1)) + (own_cr u2)) + (own_lf u2)) - (own_pair u1 u2))), .val (.int ((((((((p4 + (own_cr u1)) + (own_lf u1)) + (own_cr u2)) + (own_lf u2)) - (own_pair u1 u2)) + (own_cr u3)) + (own_lf u3)) - (own_pair u2 u3))), .val (.int (((((((((((p4 + (own_cr u1)) + (own_lf u1)) + (own_cr u2)) + (own_lf u2)) - (own_pair u1 u2)) + (own_cr u3)) + (own_lf u3)) - (own_pair u2 u3)) + (own_cr u4)) + (own_lf u4)) - (own_pair u3 u4))), .val (.int (1 : Int32))] [])
    refine gIconst X44 hx (1 : Int32) (hb hby at_217) rfl ?_
    refine gGoto X44 hx 222 (hb hby at_218) (by decide) (by decide) ?_
    refine gIstore X44 hx #[.val (.int p0), .val (.int p1), .val (.int p2), .val (.int p3), .val (.int p4), .val (.int p5), .val (.int u1), .val (.int u2), .val (.int u3), .val (.int u4), .val (.ref b5), .val (.int p4), .val (.int ((p4 + (own_cr u1)) + (own_lf u1))), .val (.int (((((p4 + (own_cr u1)) + (own_lf u1)) + (own_cr u2)) + (own_lf u2)) - (own_pair u1 u2))), .val (.int ((((((((p4 + (own_cr u1)) + (own_lf u1)) + (own_cr u2)) + (own_lf u2)) - (own_pair u1 u2)) + (own_cr u3)) + (own_lf u3)) - (own_pair u2 u3))), .val (.int (((((((((((p4 + (own_cr u1)) + (own_lf u1)) + (own_cr u2)) + (own_lf u2)) - (own_pair u1 u2)) + (own_cr u3)) + (own_lf u3)) - (own_pair u2 u3)) + (own_cr u4)) + (own_lf u4)) - (own_pair u3 u4))), .val (.int (1 : Int32))] (hb hby at_222) rfl ?_
    refine gAload X44 hx (hb hby at_224) rfl rfl ?_
    refine gIload X44 hx (hb hby at_226) rfl ?_
    refine gVirtual X44 hx hZ (y := (⟨"com/example/renkei/renkei/reader/LineCount", "take", "(I)V"⟩ : MethodName)) (a := b5) hown (by decide) (tw hw 32 rfl) (tw hw 33 rfl) (tw hw 34 rfl) (tw hw 35 rfl) (tw hw 7 rfl) (tw hw 36 rfl) Eq43 (own_rm6 l Z a0 hw b5 u4 T43.heap n0 Z_43 (own_tl u3 (own_tl u2 (own_tl u1 p4 (0 : Int32)) (own_tb u1)) (own_tb u2)) (own_tb u3) Eq43 Fq43 Gq43 g_b5) e44 (by rw [hml]; rfl) (argsL := [(.int u4)]) (rest := []) (W := 0) (lenOf own_pd3 rfl) rfl (Nat.le_of_eq rfl) (by decide) (by decide) (by decide) (by decide) (hb hby at_228) ?_
    rintro _ T45 L45 X45 ⟨rfl, Nq45, Kq45, Eq45, Fq45, Gq45⟩
    have N_45 := Fr.app N_44 Nq45
    have Z_45 := Nat.le_trans Z_43 Kq45.1
    show Go _ _ _ _ _ _ _ T45 (mkF m 231 #[.val (.int p0), .val (.int p1), .val (.int p2), .val (.int p3), .val (.int p4), .val (.int p5), .val (.int u1), .val (.int u2), .val (.int u3), .val (.int u4), .val (.ref b5), .val (.int p4), .val (.int ((p4 + (own_cr u1)) + (own_lf u1))), .val (.int (((((p4 + (own_cr u1)) + (own_lf u1)) + (own_cr u2)) + (own_lf u2)) - (own_pair u1 u2))), .val (.int ((((((((p4 + (own_cr u1)) + (own_lf u1)) + (own_cr u2)) + (own_lf u2)) - (own_pair u1 u2)) + (own_cr u3)) + (own_lf u3)) - (own_pair u2 u3))), .val (.int (((((((((((p4 + (own_cr u1)) + (own_lf u1)) + (own_cr u2)) + (own_lf u2)) - (own_pair u1 u2)) + (own_cr u3)) + (own_lf u3)) - (own_pair u2 u3)) + (own_cr u4)) + (own_lf u4)) - (own_pair u3 u4))), .val (.int (1 : Int32))] [])
    refine gIload X45 hx (hb hby at_231) rfl ?_
    refine gIf X45 hx 250 (hb hby at_233) (by decide) (by decide) (fun q => absurd (o_eqT q) (by decide)) (fun _ => ?_)
    show Go _ _ _ _ _ _ _ T45 (mkF m 236 #[.val (.int p0), .val (.int p1), .val (.int p2), .val (.int p3), .val (.int p4), .val (.int p5), .val (.int u1), .val (.int u2), .val (.int u3), .val (.int u4), .val (.ref b5), .val (.int p4), .val (.int ((p4 + (own_cr u1)) + (own_lf u1))), .val (.int (((((p4 + (own_cr u1)) + (own_lf u1)) + (own_cr u2)) + (own_lf u2)) - (own_pair u1 u2))), .val (.int ((((((((p4 + (own_cr u1)) + (own_lf u1)) + (own_cr u2)) + (own_lf u2)) - (own_pair u1 u2)) + (own_cr u3)) + (own_lf u3)) - (own_pair u2 u3))), .val (.int (((((((((((p4 + (own_cr u1)) + (own_lf u1)) + (own_cr u2)) + (own_lf u2)) - (own_pair u1 u2)) + (own_cr u3)) + (own_lf u3)) - (own_pair u2 u3)) + (own_cr u4)) + (own_lf u4)) - (own_pair u3 u4))), .val (.int (1 : Int32))] [])
    refine gAload X45 hx (hb hby at_236) rfl rfl ?_
    refine gVirtual X45 hx hZ (y := (⟨"com/example/renkei/renkei/reader/LineCount", "line", "()I"⟩ : MethodName)) (a := b5) hown (by decide) (tw hw 37 rfl) (tw hw 38 rfl) (tw hw 39 rfl) (tw hw 40 rfl) (tw hw 7 rfl) (tw hw 41 rfl) Eq45 (own_rm7 l Z a0 hw b5 T45.heap n0 Z_45 _ _ Eq45 Fq45 Gq45 g_b5) rfl (by rw [hml]; rfl) (argsL := []) (rest := []) (W := 0) (lenOf own_pd4 rfl) rfl (Nat.le_of_eq rfl) (by decide) (by decide) (by decide) (by decide) (hb hby at_238) ?_
    rintro _ T46 L46 X46 ⟨rfl, Nq46, e46⟩
    have N_46 := Fr.app N_45 Nq46
    show Go _ _ _ _ _ _ _ T46 (mkF m 241 #[.val (.int p0), .val (.int p1), .val (.int p2), .val (.int p3), .val (.int p4), .val (.int p5), .val (.int u1), .val (.int u2), .val (.int u3), .val (.int u4), .val (.ref b5), .val (.int p4), .val (.int ((p4 + (own_cr u1)) + (own_lf u1))), .val (.int (((((p4 + (own_cr u1)) + (own_lf u1)) + (own_cr u2)) + (own_lf u2)) - (own_pair u1 u2))), .val (.int ((((((((p4 + (own_cr u1)) + (own_lf u1)) + (own_cr u2)) + (own_lf u2)) - (own_pair u1 u2)) + (own_cr u3)) + (own_lf u3)) - (own_pair u2 u3))), .val (.int (((((((((((p4 + (own_cr u1)) + (own_lf u1)) + (own_cr u2)) + (own_lf u2)) - (own_pair u1 u2)) + (own_cr u3)) + (own_lf u3)) - (own_pair u2 u3)) + (own_cr u4)) + (own_lf u4)) - (own_pair u3 u4))), .val (.int (1 : Int32))] [(.int (own_tl u4 (own_tl u3 (own_tl u2 (own_tl u1 p4 (0 : Int32)) (own_tb u1)) (own_tb u2)) (own_tb u3)))])
    refine gIload X46 hx (hb hby at_241) rfl ?_
    refine gIcmp X46 hx 250 (hb hby at_243) (by decide) (by decide) (fun q => absurd (own_st u3 u4 (own_st u2 u3 (own_st u1 u2 (own_e1 u1 p4)))) (o_neT q)) (fun _ => ?_)
    show Go _ _ _ _ _ _ _ T46 (mkF m 246 #[.val (.int p0), .val (.int p1), .val (.int p2), .val (.int p3), .val (.int p4), .val (.int p5), .val (.int u1), .val (.int u2), .val (.int u3), .val (.int u4), .val (.ref b5), .val (.int p4), .val (.int ((p4 + (own_cr u1)) + (own_lf u1))), .val (.int (((((p4 + (own_cr u1)) + (own_lf u1)) + (own_cr u2)) + (own_lf u2)) - (own_pair u1 u2))), .val (.int ((((((((p4 + (own_cr u1)) + (own_lf u1)) + (own_cr u2)) + (own_lf u2)) - (own_pair u1 u2)) + (own_cr u3)) + (own_lf u3)) - (own_pair u2 u3))), .val (.int (((((((((((p4 + (own_cr u1)) + (own_lf u1)) + (own_cr u2)) + (own_lf u2)) - (own_pair u1 u2)) + (own_cr u3)) + (own_lf u3)) - (own_pair u2 u3)) + (own_cr u4)) + (own_lf u4)) - (own_pair u3 u4))), .val (.int (1 : Int32))] [])
    refine gIconst X46 hx (1 : Int32) (hb hby at_246) rfl ?_
    refine gGoto X46 hx 251 (hb hby at_247) (by decide) (by decide) ?_
    refine gIstore X46 hx #[.val (.int p0), .val (.int p1), .val (.int p2), .val (.int p3), .val (.int p4), .val (.int p5), .val (.int u1), .val (.int u2), .val (.int u3), .val (.int u4), .val (.ref b5), .val (.int p4), .val (.int ((p4 + (own_cr u1)) + (own_lf u1))), .val (.int (((((p4 + (own_cr u1)) + (own_lf u1)) + (own_cr u2)) + (own_lf u2)) - (own_pair u1 u2))), .val (.int ((((((((p4 + (own_cr u1)) + (own_lf u1)) + (own_cr u2)) + (own_lf u2)) - (own_pair u1 u2)) + (own_cr u3)) + (own_lf u3)) - (own_pair u2 u3))), .val (.int (((((((((((p4 + (own_cr u1)) + (own_lf u1)) + (own_cr u2)) + (own_lf u2)) - (own_pair u1 u2)) + (own_cr u3)) + (own_lf u3)) - (own_pair u2 u3)) + (own_cr u4)) + (own_lf u4)) - (own_pair u3 u4))), .val (.int (1 : Int32))] (hb hby at_251) rfl ?_
    refine gIload X46 hx (hb hby at_253) rfl ?_
    exact gRetZ X46 hx hlk hret (by simp) (hb hby at_255) (z' := (1 : Int32)) rfl (by decide) (by decide) ⟨rfl, N_46⟩
set_option maxRecDepth 65536 in
set_option maxHeartbeats 40000000 in
theorem comes_1 {Post : Tables → Env → Array Value → State → Outcome → State → Prop} (hpost : ∀ tb e args s v u, (limb_1_1.after args s (.returned v) u = true ∧ limb_1_2.after args s (.returned v) u = true ∧ True) → FrameEnd s (.returned v) u (Jvm.fieldLocs frame_1_writes args s ++ Jvm.arrayLocs frame_1_arrays args s ++ Jvm.staticLocs frame_1_statics s) 16 128 → Post tb e args s (.returned v) u) :
    ArmFor flags0 classFile x code maxLocals ret World_1 tables_1 room_1 Calls_1 rest_1 Pre_1 Post := by
  intro l hfl _ _ p e ha hc hk s m args below hf hA hF happ hP
  obtain ⟨hcalls, hrest, hpre⟩ := hP
  obtain ⟨-, -, -, hnamed, -, -, -, hat⟩ := (Spec.applies_iff hf).mp happ
  obtain ⟨hg, hn⟩ := and_e (Cond.before_iff.mp (show (Jvm.Cond.and given_1 narrow_1).before args s = true from hpre))
  obtain ⟨h1, hr0⟩ := and_e hg
  obtain ⟨hv0, hr1⟩ := and_e hr0
  obtain ⟨hv1, hr2⟩ := and_e hr1
  obtain ⟨hv2, hr3⟩ := and_e hr2
  obtain ⟨hv3, hr4⟩ := and_e hr3
  obtain ⟨hv4, hr5⟩ := and_e hr4
  have hv5 := hr5
  obtain ⟨w0, w1, w2, w3, w4, w5, rfl⟩ : ∃ w0 w1 w2 w3 w4 w5 : Value, args = #[w0, w1, w2, w3, w4, w5] := by
    have hs : args.size = 6 := by simpa [Cond.value, given_1] using h1
    obtain ⟨L⟩ := args
    match L, hs with
    | [w0, w1, w2, w3, w4, w5], _ => exact ⟨w0, w1, w2, w3, w4, w5, rfl⟩
  have hw := fun d (hd : d ∈ tables_1) => atoms_spec (ws := Jvm.Cond.code x code maxLocals ret :: tables_1) hat d (List.mem_cons_of_mem _ hd)
  obtain ⟨i0, ei0⟩ := is_v hv0
  obtain rfl : w0 = (.int i0) := Option.some.inj ei0
  obtain ⟨i1, ei1⟩ := is_v hv1
  obtain rfl : w1 = (.int i1) := Option.some.inj ei1
  obtain ⟨i2, ei2⟩ := is_v hv2
  obtain rfl : w2 = (.int i2) := Option.some.inj ei2
  obtain ⟨i3, ei3⟩ := is_v hv3
  obtain rfl : w3 = (.int i3) := Option.some.inj ei3
  obtain ⟨i4, ei4⟩ := is_v hv4
  obtain rfl : w4 = (.int i4) := Option.some.inj ei4
  obtain ⟨i5, ei5⟩ := is_v hv5
  obtain rfl : w5 = (.int i5) := Option.some.inj ei5
  obtain ⟨n, o, h1, h2, h3, _, L, rfl, ⟨rfl, N⟩, hq⟩ := own_rm8 l s _ hw i0 i1 i2 i3 i4 i5 s.heap s.heap.size (Nat.le_refl _) p e ha hc hk s m _ below hf ((Spec.applies_iff_loose hf).mp happ).1 ⟨rfl, State.Warmed39.refl s, rfl⟩ trivial
  refine ⟨n, _, h1, h2, h3, hpost _ _ _ _ _ _ ⟨Cond.after_iff.mpr rfl, Cond.after_iff.mpr (eq_i res_at (Term.int_eval (1)) rfl), trivial⟩ ⟨hq.1, hq.2.1, (hq.2.2.sift fun y hy => Or.inr (N y hy)).mono (by decide) (by decide)⟩⟩
theorem main_1_1 : Claimed_1_1 := comes_1 fun _ _ _ _ _ _ h hF => ⟨h.1, hF⟩
theorem main_1_2 : Claimed_1_2 := comes_1 fun _ _ _ _ _ _ h hF => ⟨h.2.1, hF⟩
end Jvm.Pilot.@@N@@
namespace Jvm.Pilot.@@N@@
open Jvm Jvm.ClassFile Sem Op Lib Jvm.Free Jvm.Stand Jvm.Pilot.@@N@@.Jvm.D
/-! MADE BY PROGRAM (witnessworld.py) out of the Statement's table words and the real class files: 9 classes; the members and pool entries that the words name. The judged class is class 1, her method 5. -/
namespace start1
open Jvm.ClassFile
def u (s : String) : CpInfo := .utf8 (stringToUtf16 s)
/-- a pool by its gaps: so many unusable entries, then the entry; so many at the end -/
def gap : Nat → List CpInfo → List CpInfo
  | 0, r => r
  | n + 1, r => .unusable :: gap n r
def poolList (es : List (Nat × CpInfo)) (last : Nat) : List CpInfo := es.foldr (fun e r => gap e.1 (e.2 :: r)) (gap last [])
def pool (es : List (Nat × CpInfo)) (last : Nat) : Array CpInfo := ⟨poolList es last⟩
def fileOf (pool : Array CpInfo) (this : Nat) (attrs : Array Attribute := #[]) (ms : Array MethodInfo := #[]) (fl : Nat := 33) (sup : Nat := 0) (ifs : Array Nat := #[]) (fds : Array FieldInfo := #[]) : ClassFile where
  minorVersion := 0
  majorVersion := 65
  constantPool := pool
  accessFlags := fl
  thisClass := this
  superClass := sup
  interfaces := ifs
  fields := fds
  methods := ms
  attributes := attrs
def plain (name : String) (sup : Option ClassId) : Class where
  name := name
  kind := .ordinary
  loader := none
  accessFlags := 33
  super := sup
  interfaces := #[]
  cf := none
  fields := #[]
  methods := #[]
  instanceTypes := #[]
  staticTypes := #[]
  resolved := #[]
  callSites := []
  init := .initialized
  statics := none
  mirror := none

def pool0 : Array CpInfo := pool [(5, u "<init>"), (0, u "()V"), (1, .class_ 10), (1, u "java/lang/Object")] 113

def k0c0 : Code := { maxStack := 0, maxLocals := 1, code := object_method_1_code, exceptionTable := #[], attributes := #[] }
def k0m0 : Method := { name := "<init>", desc := "()V", sig := { parameters := [], returnType := none }, accessFlags := 1, code := some k0c0 }
/-- java/lang/Object -/
def k0 : Class := { plain "java/lang/Object" none with
  accessFlags := 33
  interfaces := #[]
  cf := some (fileOf pool0 8 #[] #[{ accessFlags := 1, nameIndex := 5, descriptorIndex := 6, attributes := #[] }] 33 0 #[] #[])
  fields := #[]
  methods := #[k0m0]
  instanceTypes := #[]
  staticTypes := #[]
  resolved := Array.replicate 124 none
  statics := none }

def pool1 : Array CpInfo := pool [(2, .class_ 4), (0, .nameAndType 5 6), (0, u "java/lang/Object"), (0, u "<init>"), (0, u "()V"), (0, .integer 65535), (0, .methodref 9 10), (0, .class_ 11), (0, .nameAndType 12 13), (0, u "com/example/renkei/renkei/reader/LineCountTake326PinLaw"), (0, u "unit"), (0, u "(I)I"), (0, .class_ 15), (0, u "com/example/renkei/renkei/reader/LineCount"), (0, .methodref 14 3), (0, .methodref 14 18), (0, .nameAndType 19 20), (0, u "set"), (0, u "(I)V"), (0, .methodref 9 22), (0, .nameAndType 23 13), (0, u "cr"), (0, .methodref 9 25), (0, .nameAndType 26 13), (0, u "lf"), (0, .methodref 9 28), (0, .nameAndType 29 30), (0, u "pair"), (0, u "(II)I"), (0, .methodref 14 32), (0, .nameAndType 33 20), (0, u "take"), (0, .methodref 14 35), (0, .nameAndType 36 37), (0, u "line"), (0, u "()I"), (3, u "law"), (0, u "(IIIIII)Z")] 2

def k1m0 : Method := { name := "<init>", desc := "()V", sig := { parameters := [], returnType := none }, accessFlags := 1, code := none }
def k1c1 : Code := { maxStack := 2, maxLocals := 2, code := method_2_code, exceptionTable := #[], attributes := #[] }
def k1m1 : Method := { name := "unit", desc := "(I)I", sig := { parameters := [.int], returnType := some .int }, accessFlags := 10, code := some k1c1 }
def k1c2 : Code := { maxStack := 2, maxLocals := 1, code := method_3_code, exceptionTable := #[], attributes := #[] }
def k1m2 : Method := { name := "cr", desc := "(I)I", sig := { parameters := [.int], returnType := some .int }, accessFlags := 10, code := some k1c2 }
def k1c3 : Code := { maxStack := 2, maxLocals := 1, code := method_4_code, exceptionTable := #[], attributes := #[] }
def k1m3 : Method := { name := "lf", desc := "(I)I", sig := { parameters := [.int], returnType := some .int }, accessFlags := 10, code := some k1c3 }
def k1c4 : Code := { maxStack := 2, maxLocals := 2, code := method_5_code, exceptionTable := #[], attributes := #[] }
def k1m4 : Method := { name := "pair", desc := "(II)I", sig := { parameters := [.int, .int], returnType := some .int }, accessFlags := 10, code := some k1c4 }
def k1c5 : Code := { maxStack := 3, maxLocals := 17, code := code, exceptionTable := #[], attributes := #[] }
def k1m5 : Method := { name := "law", desc := "(IIIIII)Z", sig := { parameters := [.int, .int, .int, .int, .int, .int], returnType := some .boolean }, accessFlags := 9, code := some k1c5 }
/-- com/example/renkei/renkei/reader/LineCountTake326PinLaw -/
def k1 : Class := { plain "com/example/renkei/renkei/reader/LineCountTake326PinLaw" (some 0) with
  accessFlags := 49
  interfaces := #[]
  cf := some (fileOf pool1 9 #[] #[{ accessFlags := 1, nameIndex := 5, descriptorIndex := 6, attributes := #[] }, { accessFlags := 10, nameIndex := 12, descriptorIndex := 13, attributes := #[] }, { accessFlags := 10, nameIndex := 23, descriptorIndex := 13, attributes := #[] }, { accessFlags := 10, nameIndex := 26, descriptorIndex := 13, attributes := #[] }, { accessFlags := 10, nameIndex := 29, descriptorIndex := 30, attributes := #[] }, { accessFlags := 9, nameIndex := 41, descriptorIndex := 42, attributes := #[] }] 49 2 #[] #[])
  fields := #[]
  methods := #[k1m0, k1m1, k1m2, k1m3, k1m4, k1m5]
  instanceTypes := #[]
  staticTypes := #[]
  resolved := Array.replicate 45 none
  statics := none }

def pool2 : Array CpInfo := pool [(1, .methodref 2 3), (0, .class_ 4), (0, .nameAndType 5 6), (0, u "java/lang/Object"), (0, u "<init>"), (0, u "()V"), (0, .fieldref 8 9), (0, .class_ 10), (0, .nameAndType 11 12), (0, u "com/example/renkei/renkei/reader/LineCount"), (0, u "line"), (0, u "I"), (0, .fieldref 8 14), (0, .nameAndType 15 16), (0, u "afterCarriageReturn"), (0, u "Z"), (2, u "take"), (0, u "(I)V"), (2, u "()I"), (0, u "set")] 2

def k2c0 : Code := { maxStack := 2, maxLocals := 1, code := prog_83_method_1_code, exceptionTable := #[], attributes := #[] }
def k2m0 : Method := { name := "<init>", desc := "()V", sig := { parameters := [], returnType := none }, accessFlags := 0, code := some k2c0 }
def k2c1 : Code := { maxStack := 3, maxLocals := 2, code := prog_83_method_2_code, exceptionTable := #[], attributes := #[] }
def k2m1 : Method := { name := "take", desc := "(I)V", sig := { parameters := [.int], returnType := none }, accessFlags := 0, code := some k2c1 }
def k2c2 : Code := { maxStack := 1, maxLocals := 1, code := prog_83_method_4_code, exceptionTable := #[], attributes := #[] }
def k2m2 : Method := { name := "line", desc := "()I", sig := { parameters := [], returnType := some .int }, accessFlags := 0, code := some k2c2 }
def k2c3 : Code := { maxStack := 2, maxLocals := 2, code := prog_83_method_5_code, exceptionTable := #[], attributes := #[] }
def k2m3 : Method := { name := "set", desc := "(I)V", sig := { parameters := [.int], returnType := none }, accessFlags := 0, code := some k2c3 }
/-- com/example/renkei/renkei/reader/LineCount -/
def k2 : Class := { plain "com/example/renkei/renkei/reader/LineCount" (some 0) with
  accessFlags := 48
  interfaces := #[]
  cf := some (fileOf pool2 8 #[] #[{ accessFlags := 0, nameIndex := 5, descriptorIndex := 6, attributes := #[] }, { accessFlags := 0, nameIndex := 19, descriptorIndex := 20, attributes := #[] }, { accessFlags := 0, nameIndex := 11, descriptorIndex := 23, attributes := #[] }, { accessFlags := 0, nameIndex := 24, descriptorIndex := 20, attributes := #[] }] 48 2 #[] #[{ accessFlags := 2, nameIndex := 11, descriptorIndex := 12, attributes := #[] }, { accessFlags := 2, nameIndex := 15, descriptorIndex := 16, attributes := #[] }])
  fields := #[{ name := "line", type := .int, accessFlags := 2, slot := 0, constantValue := 0 }, { name := "afterCarriageReturn", type := .boolean, accessFlags := 2, slot := 1, constantValue := 0 }]
  methods := #[k2m0, k2m1, k2m2, k2m3]
  instanceTypes := #[.int, .boolean]
  staticTypes := #[]
  resolved := Array.replicate 27 none
  statics := none }

def pool3 : Array CpInfo := pool [(1, u "java/lang/Cloneable"), (0, .class_ 1), (0, u "java/lang/Object"), (0, .class_ 3)] 3

/-- java/lang/Cloneable -/
def k3 : Class := { plain "java/lang/Cloneable" (some 0) with
  accessFlags := 1537
  interfaces := #[]
  cf := some (fileOf pool3 2 #[] #[] 1537 4 #[] #[])
  fields := #[]
  methods := #[]
  instanceTypes := #[]
  staticTypes := #[]
  resolved := Array.replicate 8 none
  statics := none }

def pool4 : Array CpInfo := pool [(1, u "java/io/Serializable"), (0, .class_ 1), (0, u "java/lang/Object"), (0, .class_ 3)] 3

/-- java/io/Serializable -/
def k4 : Class := { plain "java/io/Serializable" (some 0) with
  accessFlags := 1537
  interfaces := #[]
  cf := some (fileOf pool4 2 #[] #[] 1537 4 #[] #[])
  fields := #[]
  methods := #[]
  instanceTypes := #[]
  staticTypes := #[]
  resolved := Array.replicate 8 none
  statics := none }

/-- the primitive byte -/
def k5 : Class := { plain "byte" none with kind := .primitive 'B', accessFlags := 0x411 }
/-- [B -/
def k6 : Class := { plain "[B" (some 0) with kind := .array 5 .byte, interfaces := #[3, 4], accessFlags := 1041 }

/-- the primitive int -/
def k7 : Class := { plain "int" none with kind := .primitive 'I', accessFlags := 0x411 }
/-- [I -/
def k8 : Class := { plain "[I" (some 0) with kind := .array 7 .int, interfaces := #[3, 4], accessFlags := 1041 }

def heap : Heap := #[]
def classes : Array Class := #[k0, k1, k2, k3, k4, k5, k6, k7, k8]
def interned : List (Array UInt16 × Addr) := []
def slotsUsed : Nat := 0
def theMethod : MethodId := ⟨1, 5⟩
def args0 : Array Value := #[.int 5, .int 1, .int 2, .int 3, .int 4, .int 6]
def aboutOver (below : List Frame) : State where
  vm := { classes := classes, interned := interned.toArray }
  heap := heap
  slotsUsed := slotsUsed
  threads := #[{ frames := .invoking theMethod args0 :: below }]
def below0 : List Frame := [.native { method := ⟨0, 0⟩, args := #[] }]
def about1 : State := aboutOver below0
def p0 : Program := .bare "" "" ""
def e0 : Env := launch0.env 0 0 0
theorem w_frames : about1.frames = Frame.invoking theMethod args0 :: below0 := rfl
set_option maxRecDepth 65536 in
theorem w_args : argsFit about1.vm theMethod args0 = true := by decide +kernel
set_option maxRecDepth 65536 in
theorem w_heap : heapFits about1 = true := by decide +kernel
set_option maxRecDepth 65536 in
theorem w_runnable : about1.curStatus? = some .runnable := by decide +kernel
set_option maxRecDepth 65536 in
theorem w_alone : about1.alone = true := by decide +kernel
set_option maxRecDepth 65536 in
theorem w_named : about1.methodNamed? x = some theMethod := by decide +kernel
set_option maxRecDepth 65536 in
theorem w_hears : about1.hears theMethod below0 = true := by decide +kernel
set_option maxRecDepth 65536 in
theorem w_ripe : about1.ripe theMethod args0 below0 = true := by decide +kernel
theorem w_running : about1.status = .running := rfl
set_option maxRecDepth 65536 in
theorem w_room : about1.hasRoom e0.platform room_1 = true :=
  launch0.hasRoom_least _ room_1 (by decide +kernel) (by decide +kernel) (by decide +kernel) (by decide +kernel) (by decide +kernel) (by decide +kernel)
theorem allAtoms_all (ts : List Jvm.Cond) (a : Array Jvm.Value) (st : Jvm.State) : (allAtoms ts).before a st = ts.all (fun c => c.before a st) := by
  induction ts with
  | nil => rfl
  | cons c t ih =>
    show (Jvm.Cond.and c (allAtoms t)).before a st = _
    rw [Jvm.Cond.before_and, ih, List.all_cons]
def words1 : List Jvm.Cond := Jvm.Cond.code x code maxLocals ret :: tables_1
/-- a 'code' word, met by the world's own term for the bytes: nothing is compared byte by byte -/
theorem code_word {y : MethodName} {bytes : ByteArray} {mx : Nat} {rt : Option FieldType} {a : Array Value} {s : State} {m : MethodId} {meth : Method} {c : Code} (h1 : s.methodNamed? y = some m) (h2 : s.vm.method? m = some meth) (h3 : meth.code = some c) (h4 : c.code = bytes)
    (h5 : (c.maxLocals == mx && c.exceptionTable.isEmpty && decide (c.maxStack ≤ mostOperands) && decide (meth.sig.returnType = rt) && !meth.locks && decide (parseMethodDescriptor y.desc = some meth.sig)) = true) : (Jvm.Cond.code y bytes mx rt).before a s = true := by
  simp only [Bool.and_eq_true, beq_iff_eq, Bool.not_eq_true', decide_eq_true_eq] at h5
  obtain ⟨⟨⟨⟨⟨g1, g2⟩, g3⟩, g4⟩, g5⟩, g6⟩ := h5
  simp [Cond.before, Cond.holds, Cond.value, h1, h2, h3, h4, g1, g2, g3, g4, g5, g6]
def isCode : Jvm.Cond → Bool
  | .code _ _ _ _ => true
  | _ => false
theorem all_split {L : List Jvm.Cond} {P : Jvm.Cond → Bool} (h1 : L.all (fun c => isCode c || P c) = true) (h2 : ∀ c ∈ L.filter isCode, P c = true) : L.all P = true := by
  refine List.all_eq_true.mpr fun c hc => ?_
  have h := List.all_eq_true.mp h1 c hc
  rcases Bool.eq_false_or_eq_true (isCode c) with hi | hi
  · exact h2 c (List.mem_filter.mpr ⟨hc, hi⟩)
  · simpa [hi] using h
set_option maxRecDepth 65536 in
theorem w_c0 : (Jvm.Cond.code x code maxLocals ret).before args0 about1 = true := code_word (m := ⟨1, 5⟩) (meth := k1m5) (c := k1c5) (by decide +kernel) rfl rfl rfl (by decide +kernel)
set_option maxRecDepth 65536 in
theorem w_c1 : (Jvm.Cond.code ({ cls := "com/example/renkei/renkei/reader/LineCountTake326PinLaw", name := "unit", desc := "(I)I" } : Jvm.MethodName) method_2_code (2 : Nat) (Option.some Jvm.ClassFile.FieldType.int)).before args0 about1 = true := code_word (m := ⟨1, 1⟩) (meth := k1m1) (c := k1c1) (by decide +kernel) rfl rfl rfl (by decide +kernel)
set_option maxRecDepth 65536 in
theorem w_c2 : (Jvm.Cond.code ({ cls := "com/example/renkei/renkei/reader/LineCount", name := "<init>", desc := "()V" } : Jvm.MethodName) prog_83_method_1_code (1 : Nat) (Option.none : Option Jvm.ClassFile.FieldType)).before args0 about1 = true := code_word (m := ⟨2, 0⟩) (meth := k2m0) (c := k2c0) (by decide +kernel) rfl rfl rfl (by decide +kernel)
set_option maxRecDepth 65536 in
theorem w_c3 : (Jvm.Cond.code ({ cls := "java/lang/Object", name := "<init>", desc := "()V" } : Jvm.MethodName) object_method_1_code (1 : Nat) (Option.none : Option Jvm.ClassFile.FieldType)).before args0 about1 = true := code_word (m := ⟨0, 0⟩) (meth := k0m0) (c := k0c0) (by decide +kernel) rfl rfl rfl (by decide +kernel)
set_option maxRecDepth 65536 in
theorem w_c4 : (Jvm.Cond.code ({ cls := "com/example/renkei/renkei/reader/LineCount", name := "set", desc := "(I)V" } : Jvm.MethodName) prog_83_method_5_code (2 : Nat) (Option.none : Option Jvm.ClassFile.FieldType)).before args0 about1 = true := code_word (m := ⟨2, 3⟩) (meth := k2m3) (c := k2c3) (by decide +kernel) rfl rfl rfl (by decide +kernel)
set_option maxRecDepth 65536 in
theorem w_c5 : (Jvm.Cond.code ({ cls := "com/example/renkei/renkei/reader/LineCountTake326PinLaw", name := "cr", desc := "(I)I" } : Jvm.MethodName) method_3_code (1 : Nat) (Option.some Jvm.ClassFile.FieldType.int)).before args0 about1 = true := code_word (m := ⟨1, 2⟩) (meth := k1m2) (c := k1c2) (by decide +kernel) rfl rfl rfl (by decide +kernel)
set_option maxRecDepth 65536 in
theorem w_c6 : (Jvm.Cond.code ({ cls := "com/example/renkei/renkei/reader/LineCountTake326PinLaw", name := "lf", desc := "(I)I" } : Jvm.MethodName) method_4_code (1 : Nat) (Option.some Jvm.ClassFile.FieldType.int)).before args0 about1 = true := code_word (m := ⟨1, 3⟩) (meth := k1m3) (c := k1c3) (by decide +kernel) rfl rfl rfl (by decide +kernel)
set_option maxRecDepth 65536 in
theorem w_c7 : (Jvm.Cond.code ({ cls := "com/example/renkei/renkei/reader/LineCountTake326PinLaw", name := "pair", desc := "(II)I" } : Jvm.MethodName) method_5_code (2 : Nat) (Option.some Jvm.ClassFile.FieldType.int)).before args0 about1 = true := code_word (m := ⟨1, 4⟩) (meth := k1m4) (c := k1c4) (by decide +kernel) rfl rfl rfl (by decide +kernel)
set_option maxRecDepth 65536 in
theorem w_c8 : (Jvm.Cond.code ({ cls := "com/example/renkei/renkei/reader/LineCount", name := "take", desc := "(I)V" } : Jvm.MethodName) prog_83_method_2_code (2 : Nat) (Option.none : Option Jvm.ClassFile.FieldType)).before args0 about1 = true := code_word (m := ⟨2, 1⟩) (meth := k2m1) (c := k2c1) (by decide +kernel) rfl rfl rfl (by decide +kernel)
set_option maxRecDepth 65536 in
theorem w_c9 : (Jvm.Cond.code ({ cls := "com/example/renkei/renkei/reader/LineCount", name := "line", desc := "()I" } : Jvm.MethodName) prog_83_method_4_code (1 : Nat) (Option.some Jvm.ClassFile.FieldType.int)).before args0 about1 = true := code_word (m := ⟨2, 2⟩) (meth := k2m2) (c := k2c2) (by decide +kernel) rfl rfl rfl (by decide +kernel)
def codes1 : List Jvm.Cond := [Jvm.Cond.code x code maxLocals ret, Jvm.Cond.code ({ cls := "com/example/renkei/renkei/reader/LineCountTake326PinLaw", name := "unit", desc := "(I)I" } : Jvm.MethodName) method_2_code (2 : Nat) (Option.some Jvm.ClassFile.FieldType.int), Jvm.Cond.code ({ cls := "com/example/renkei/renkei/reader/LineCount", name := "<init>", desc := "()V" } : Jvm.MethodName) prog_83_method_1_code (1 : Nat) (Option.none : Option Jvm.ClassFile.FieldType), Jvm.Cond.code ({ cls := "java/lang/Object", name := "<init>", desc := "()V" } : Jvm.MethodName) object_method_1_code (1 : Nat) (Option.none : Option Jvm.ClassFile.FieldType), Jvm.Cond.code ({ cls := "com/example/renkei/renkei/reader/LineCount", name := "set", desc := "(I)V" } : Jvm.MethodName) prog_83_method_5_code (2 : Nat) (Option.none : Option Jvm.ClassFile.FieldType), Jvm.Cond.code ({ cls := "com/example/renkei/renkei/reader/LineCountTake326PinLaw", name := "cr", desc := "(I)I" } : Jvm.MethodName) method_3_code (1 : Nat) (Option.some Jvm.ClassFile.FieldType.int), Jvm.Cond.code ({ cls := "com/example/renkei/renkei/reader/LineCountTake326PinLaw", name := "lf", desc := "(I)I" } : Jvm.MethodName) method_4_code (1 : Nat) (Option.some Jvm.ClassFile.FieldType.int), Jvm.Cond.code ({ cls := "com/example/renkei/renkei/reader/LineCountTake326PinLaw", name := "pair", desc := "(II)I" } : Jvm.MethodName) method_5_code (2 : Nat) (Option.some Jvm.ClassFile.FieldType.int), Jvm.Cond.code ({ cls := "com/example/renkei/renkei/reader/LineCount", name := "take", desc := "(I)V" } : Jvm.MethodName) prog_83_method_2_code (2 : Nat) (Option.none : Option Jvm.ClassFile.FieldType), Jvm.Cond.code ({ cls := "com/example/renkei/renkei/reader/LineCount", name := "line", desc := "()I" } : Jvm.MethodName) prog_83_method_4_code (1 : Nat) (Option.some Jvm.ClassFile.FieldType.int)]
set_option maxRecDepth 65536 in
theorem codes_eq : words1.filter isCode = codes1 := rfl
theorem w_codes : ∀ c ∈ words1.filter isCode, c.before args0 about1 = true := by
  rw [codes_eq]
  intro c hc
  simp only [codes1, List.mem_cons, List.not_mem_nil, or_false] at hc
  rcases hc with rfl | rfl | rfl | rfl | rfl | rfl | rfl | rfl | rfl | rfl
  · exact w_c0
  · exact w_c1
  · exact w_c2
  · exact w_c3
  · exact w_c4
  · exact w_c5
  · exact w_c6
  · exact w_c7
  · exact w_c8
  · exact w_c9
set_option maxRecDepth 65536 in
theorem w_t1 : (words1.take 24).all (fun c => isCode c || c.before args0 about1) = true := by decide +kernel
set_option maxRecDepth 65536 in
theorem w_t2 : (words1.drop 24).all (fun c => isCode c || c.before args0 about1) = true := by decide +kernel
theorem w_tables : (allAtoms (Jvm.Cond.code x code maxLocals ret :: tables_1)).before args0 about1 = true := by
  rw [allAtoms_all]
  show words1.all (fun c => c.before args0 about1) = true
  refine all_split ?_ w_codes
  rw [← List.take_append_drop 24 words1, List.all_append, w_t1, w_t2]
  rfl
set_option maxRecDepth 65536 in
theorem w_case : (Jvm.Cond.and given_1 narrow_1).before args0 about1 = true := by decide +kernel
theorem w_applies : (headSpec (Jvm.Cond.code x code maxLocals ret :: tables_1) room_1).applies x e0.platform about1 = true :=
  (Spec.applies_iff w_frames).mpr ⟨w_running, w_runnable, w_alone, w_named, w_hears, w_ripe, w_room, w_tables⟩
theorem atStart : AtStart classFile x code maxLocals ret World_1 tables_1 room_1 Calls_1 rest_1 Pre_1 launch0 p0 e0 about1 theMethod args0 below0 :=
  ⟨lists_1, trivial, launch0.admits_env _ _ _, launch0.least_env, fairChoices_fair.cas, fairChoices_fair.clock, w_frames, w_args, w_heap, w_applies, trivial, trivial, w_case⟩
end start1
theorem witness_1 : WitnessClaimed_1 := ⟨start1.p0, start1.e0, start1.about1, start1.theMethod, start1.args0, start1.below0, start1.atStart⟩
end Jvm.Pilot.@@N@@
