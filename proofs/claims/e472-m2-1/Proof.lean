import JvmDerived
import JvmDerived.Pilot.@@N@@Statement
import JvmDerived.Pilot.@@N@@Code
set_option linter.unusedVariables false
set_option linter.unusedSimpArgs false
namespace Jvm.Pilot.@@N@@
open Jvm Jvm.ClassFile Sem Op Lib Jvm.Free Jvm.Stand Jvm.LawKit Jvm.RoadKit Bundle Jvm.Pilot.@@N@@.Jvm.D
section OwnKit
variable {p : Program} {l : Launch} {e : Env} {R : Room} {s : State} {m : MethodId} {args : Array Value} {below : List Frame} {meth : Method} {c : Code} {T T' : State} {locs : List Loc} {cells slots : Nat} {Z : State} {a0 : Array Value} {h : Heap} {CC SS : Nat} {QQ : Option Value → Heap → List Loc → Prop} {pc : Nat} {Ls : Array Slot} {rest : List Value}
/-- the run from the frame g on comes back, with what QQ says -/
def Go (p : Program) (e : Env) (below : List Frame) (s : State) (CC SS : Nat) (QQ : Option Value → Heap → List Loc → Prop) (T : State) (g : JFrame) : Prop :=
  ∃ s₂ o, Steps p.tables e below (T.setTop g) s₂ ∧ s₂.status = .running ∧ Ended s₂ below o ∧ ∃ v L, o = .returned v ∧ QQ v s₂.heap L ∧ FrameEnd s o s₂ L CC SS
/-- a callee's contract -/
def Met (l : Launch) (Z : State) (y : MethodName) (bytes : ByteArray) (maxL : Nat) (ret : Option FieldType) (ws : List Jvm.Cond) (rm : Room) (as' : Array Value) (h0 : Heap) (QQ : Option Value → Heap → List Loc → Prop) : Prop :=
  MetFree l y (head1 (Jvm.Cond.code y bytes maxL ret :: ws) rm) (fun a U => a = as' ∧ Z.Warmed39 U.vm ∧ U.heap = h0) (fun _ _ _ _ _ => True) (fun _ U o U' => ∃ v L, o = .returned v ∧ QQ v U'.heap L ∧ FrameEnd U o U' L rm.cells rm.slots)
theorem met_of {y : MethodName} {bytes : ByteArray} {maxL : Nat} {ret : Option FieldType} {ws : List Jvm.Cond} {rm : Room} {as' : Array Value} {h0 : Heap} (hx : plainFor y = true) (hef : ∀ m, entryFrame m as' maxL = mkF m 0 Ls [])
    (body : ∀ (p : Program) (e : Env) (s : State) (m : MethodId) (below : List Frame) (meth : Method) (c : Code) (s₁ : State), p.tables.exec = Jvm.exec → c.code = bytes → c.maxLocals = maxL → s.vm.findClass y.cls = some m.cls → meth.name = y.name → meth.sig.returnType = ret → meth.locks = false → Z.Warmed39 s.vm →
      Stand p l e rm s m as' below meth c s₁ [] 0 0 → s₁.heap = h0 → Go p e below s rm.cells rm.slots QQ s₁ (mkF m 0 Ls [])) : Met l Z y bytes maxL ret ws rm as' h0 QQ := by
  refine MetFree.of_bodySF hx hisR ?_
  intro p e s m args below meth c s₁ Bd hml0 hP hK
  obtain ⟨rfl, hZ, hh⟩ := hP
  have e0 : s₁.heap = h0 := by rw [← hh, Bd.state]; rfl
  have k := body p e s m below meth c s₁ Bd.exec Bd.bytes hml0 (findClass_of_methodNamed Bd.named) (name_of_methodNamed Bd.named Bd.method).1 Bd.returns Bd.notSynchronized hZ (Stand.of_body Bd) e0
  rw [hef m]
  exact k
theorem Go.st {g g' : JFrame} (st : ∀ t, Steps p.tables e below (T'.setTop g') t → Steps p.tables e below (T.setTop g) t) (k : Go p e below s CC SS QQ T' g') : Go p e below s CC SS QQ T g := by
  obtain ⟨s₂, o, h1, h2⟩ := k
  exact ⟨s₂, o, st _ h1, h2⟩
theorem Go.tr {g g' : JFrame} (st : Steps p.tables e below (T.setTop g) (T'.setTop g')) (k : Go p e below s CC SS QQ T' g') : Go p e below s CC SS QQ T g := by
  obtain ⟨s₂, o, h1, h2⟩ := k
  exact ⟨s₂, o, st.trans h1, h2⟩
-- the returns
theorem gRetZ (X : Stand p l e R s m args below meth c T locs cells slots) (hx : p.tables.exec = Jvm.exec) (hlk : meth.locks = false) {z z' : Int32} {t : FieldType} (hret : meth.sig.returnType = some t) (ht : t = .boolean ∨ t = .byte ∨ t = .char ∨ t = .short) (hd : decode c.code pc = .ok (.ireturn, 1)) (hz : nar t z = z')
    (hc : cells ≤ CC) (hs : slots ≤ SS) (hQ : QQ (some (.int z')) T.heap locs) : Go p e below s CC SS QQ T (mkF m pc Ls (.int z :: rest)) := by
  obtain ⟨fs, hr, hrun, hended, hW, hsame⟩ := X.leave (v := some (.int z')) (fun h => by rw [hret] at h; cases h) hlk
  exact ⟨_, _, retN X hx hret ht hd (by rw [hz]; exact hr), hrun, hended, _, _, rfl, hQ, ⟨_, rfl⟩, hW, hsame.mono hc hs⟩
theorem gRetI (X : Stand p l e R s m args below meth c T locs cells slots) (hx : p.tables.exec = Jvm.exec) (hlk : meth.locks = false) {z : Int32} (hret : meth.sig.returnType = some .int) (hd : decode c.code pc = .ok (.ireturn, 1))
    (hc : cells ≤ CC) (hs : slots ≤ SS) (hQ : QQ (some (.int z)) T.heap locs) : Go p e below s CC SS QQ T (mkF m pc Ls (.int z :: rest)) := by
  obtain ⟨fs, hr, hrun, hended, hW, hsame⟩ := X.leave (v := some (.int z)) (fun h => by rw [hret] at h; cases h) hlk
  exact ⟨_, _, retOut X hx hret rfl (Or.inl ⟨rfl, Or.inl rfl, z, rfl⟩) hd hr, hrun, hended, _, _, rfl, hQ, ⟨_, rfl⟩, hW, hsame.mono hc hs⟩
theorem gRetA (X : Stand p l e R s m args below meth c T locs cells slots) (hx : p.tables.exec = Jvm.exec) (hlk : meth.locks = false) {w : Value} {t : FieldType} (hret : meth.sig.returnType = some t) (ht : t.isReference = true) (hn : narrow t w = w) (hw : w.isRef = true) (hd : decode c.code pc = .ok (.areturn, 1))
    (hc : cells ≤ CC) (hs : slots ≤ SS) (hQ : QQ (some w) T.heap locs) : Go p e below s CC SS QQ T (mkF m pc Ls (w :: rest)) := by
  obtain ⟨fs, hr, hrun, hended, hW, hsame⟩ := X.leave (v := some w) (fun h => by rw [hret] at h; cases h) hlk
  exact ⟨_, _, retOut X hx hret hn (Or.inr (Or.inr (Or.inr (Or.inr ⟨rfl, ht, hw⟩)))) hd hr, hrun, hended, _, _, rfl, hQ, ⟨_, rfl⟩, hW, hsame.mono hc hs⟩
theorem gRetV (X : Stand p l e R s m args below meth c T locs cells slots) (hx : p.tables.exec = Jvm.exec) (hlk : meth.locks = false) (hret : meth.sig.returnType = none) (hd : decode c.code pc = .ok (.return_, 1))
    (hc : cells ≤ CC) (hs : slots ≤ SS) (hQ : QQ none T.heap locs) : Go p e below s CC SS QQ T (mkF m pc Ls []) := by
  obtain ⟨fs, hr, hrun, hended, hW, hsame⟩ := X.leave (v := none) (fun _ => rfl) hlk
  exact ⟨_, _, X.returnOut hx hret hd hr, hrun, hended, _, _, rfl, hQ, ⟨_, rfl⟩, hW, hsame.mono hc hs⟩
-- the plain steps
theorem gAloadN (X : Stand p l e R s m args below meth c T locs cells slots) (hx : p.tables.exec = Jvm.exec) {k : Fin 4} {v : Value} (hd : decode c.code pc = .ok (.aload_n k, 1)) (hl : Ls[k.val]? = some (.val v)) (hv : v.isRef = true)
    (kk : Go p e below s CC SS QQ T (mkF m (pc + 1) Ls (v :: rest))) : Go p e below s CC SS QQ T (mkF m pc Ls rest) := Go.st (fun _ => XS.aloadN X.here hx rfl hd hl hv) kk
theorem gAload (X : Stand p l e R s m args below meth c T locs cells slots) (hx : p.tables.exec = Jvm.exec) {k : Nat} {v : Value} (hd : decode c.code pc = .ok (.aload k, 2)) (hl : Ls[k]? = some (.val v)) (hv : v.isRef = true)
    (kk : Go p e below s CC SS QQ T (mkF m (pc + 2) Ls (v :: rest))) : Go p e below s CC SS QQ T (mkF m pc Ls rest) := Go.st (fun _ => XS.aload X.here hx rfl hd hl hv) kk
theorem gIloadN (X : Stand p l e R s m args below meth c T locs cells slots) (hx : p.tables.exec = Jvm.exec) {k : Fin 4} {v : Int32} (hd : decode c.code pc = .ok (.iload_n k, 1)) (hl : Ls[k.val]? = some (.val (.int v)))
    (kk : Go p e below s CC SS QQ T (mkF m (pc + 1) Ls (.int v :: rest))) : Go p e below s CC SS QQ T (mkF m pc Ls rest) := Go.st (fun _ => XS.iloadN X.here hx rfl hd hl) kk
theorem gIload (X : Stand p l e R s m args below meth c T locs cells slots) (hx : p.tables.exec = Jvm.exec) {k : Nat} {v : Int32} (hd : decode c.code pc = .ok (.iload k, 2)) (hl : Ls[k]? = some (.val (.int v)))
    (kk : Go p e below s CC SS QQ T (mkF m (pc + 2) Ls (.int v :: rest))) : Go p e below s CC SS QQ T (mkF m pc Ls rest) := Go.st (fun _ => XS.iload X.here hx rfl hd hl) kk
theorem gIconst (X : Stand p l e R s m args below meth c T locs cells slots) (hx : p.tables.exec = Jvm.exec) {i : Int} (v : Int32) (hd : decode c.code pc = .ok (.iconst i, 1)) (hv : Int32.ofInt i = v)
    (kk : Go p e below s CC SS QQ T (mkF m (pc + 1) Ls (.int v :: rest))) : Go p e below s CC SS QQ T (mkF m pc Ls rest) := by subst hv; exact Go.st (fun _ => XS.iconst X.here hx rfl hd) kk
theorem gBipush (X : Stand p l e R s m args below meth c T locs cells slots) (hx : p.tables.exec = Jvm.exec) {i : Int} (v : Int32) (hd : decode c.code pc = .ok (.bipush i, 2)) (hv : (Int8.ofInt i).toInt32 = v)
    (kk : Go p e below s CC SS QQ T (mkF m (pc + 2) Ls (.int v :: rest))) : Go p e below s CC SS QQ T (mkF m pc Ls rest) := by subst hv; exact Go.st (fun _ => XS.bipush X.here hx rfl hd) kk
theorem gSipush (X : Stand p l e R s m args below meth c T locs cells slots) (hx : p.tables.exec = Jvm.exec) {i : Int} (v : Int32) (hd : decode c.code pc = .ok (.sipush i, 3)) (hv : (Int16.ofInt i).toInt32 = v)
    (kk : Go p e below s CC SS QQ T (mkF m (pc + 3) Ls (.int v :: rest))) : Go p e below s CC SS QQ T (mkF m pc Ls rest) := by subst hv; exact Go.st (fun _ => XS.sipush X.here hx rfl hd) kk
theorem gNull (X : Stand p l e R s m args below meth c T locs cells slots) (hx : p.tables.exec = Jvm.exec) (hd : decode c.code pc = .ok (.aconst_null, 1))
    (kk : Go p e below s CC SS QQ T (mkF m (pc + 1) Ls (.null :: rest))) : Go p e below s CC SS QQ T (mkF m pc Ls rest) := Go.st (fun _ => XS.aconstNull X.here hx rfl hd) kk
theorem gLdc (X : Stand p l e R s m args below meth c T locs cells slots) (hx : p.tables.exec = Jvm.exec) (hZ : Z.Warmed39 s.vm) {own : String} {index : Nat} (v : Int32) (hown : s.vm.findClass own = some m.cls) (w : (Cond.constant own index v).before a0 Z = true) (hd : decode c.code pc = .ok (.ldc index, 2))
    (kk : Go p e below s CC SS QQ T (mkF m (pc + 2) Ls (.int v :: rest))) : Go p e below s CC SS QQ T (mkF m pc Ls rest) := Go.st (X.ldcInt hx hown (mvT hZ w) rfl hd) kk
theorem gIadd (X : Stand p l e R s m args below meth c T locs cells slots) (hx : p.tables.exec = Jvm.exec) {x y : Int32} (hd : decode c.code pc = .ok (.iadd, 1))
    (kk : Go p e below s CC SS QQ T (mkF m (pc + 1) Ls (.int (x + y) :: rest))) : Go p e below s CC SS QQ T (mkF m pc Ls (.int y :: .int x :: rest)) := Go.st (fun _ => XS.iadd X.here hx rfl hd rfl) kk
theorem gIsub (X : Stand p l e R s m args below meth c T locs cells slots) (hx : p.tables.exec = Jvm.exec) {x y : Int32} (hd : decode c.code pc = .ok (.isub, 1))
    (kk : Go p e below s CC SS QQ T (mkF m (pc + 1) Ls (.int (x - y) :: rest))) : Go p e below s CC SS QQ T (mkF m pc Ls (.int y :: .int x :: rest)) := Go.st (fun _ => XS.isub X.here hx rfl hd rfl) kk
theorem gIand (X : Stand p l e R s m args below meth c T locs cells slots) (hx : p.tables.exec = Jvm.exec) {x y : Int32} (hd : decode c.code pc = .ok (.iand, 1))
    (kk : Go p e below s CC SS QQ T (mkF m (pc + 1) Ls (.int (x &&& y) :: rest))) : Go p e below s CC SS QQ T (mkF m pc Ls (.int y :: .int x :: rest)) := Go.st (fun _ => XS.iand X.here hx rfl hd rfl) kk
theorem gImul (X : Stand p l e R s m args below meth c T locs cells slots) (hx : p.tables.exec = Jvm.exec) {x y : Int32} (hd : decode c.code pc = .ok (.imul, 1))
    (kk : Go p e below s CC SS QQ T (mkF m (pc + 1) Ls (.int (x * y) :: rest))) : Go p e below s CC SS QQ T (mkF m pc Ls (.int y :: .int x :: rest)) := Go.st (fun _ => XS.imul X.here hx rfl hd rfl) kk
theorem gIxor (X : Stand p l e R s m args below meth c T locs cells slots) (hx : p.tables.exec = Jvm.exec) {x y : Int32} (hd : decode c.code pc = .ok (.ixor, 1))
    (kk : Go p e below s CC SS QQ T (mkF m (pc + 1) Ls (.int (x ^^^ y) :: rest))) : Go p e below s CC SS QQ T (mkF m pc Ls (.int y :: .int x :: rest)) := Go.st (fun _ => XT.ixor X.here hx rfl hd rfl) kk
theorem gIshl (X : Stand p l e R s m args below meth c T locs cells slots) (hx : p.tables.exec = Jvm.exec) {x y : Int32} (hd : decode c.code pc = .ok (.ishl, 1))
    (kk : Go p e below s CC SS QQ T (mkF m (pc + 1) Ls (.int (x <<< (y &&& 31)) :: rest))) : Go p e below s CC SS QQ T (mkF m pc Ls (.int y :: .int x :: rest)) := Go.st (fun _ => XT.ishl X.here hx rfl hd rfl) kk
theorem gIshr (X : Stand p l e R s m args below meth c T locs cells slots) (hx : p.tables.exec = Jvm.exec) {x y : Int32} (hd : decode c.code pc = .ok (.ishr, 1))
    (kk : Go p e below s CC SS QQ T (mkF m (pc + 1) Ls (.int (x >>> (y &&& 31)) :: rest))) : Go p e below s CC SS QQ T (mkF m pc Ls (.int y :: .int x :: rest)) := Go.st (fun _ => XT.ishr X.here hx rfl hd rfl) kk
theorem gIushr (X : Stand p l e R s m args below meth c T locs cells slots) (hx : p.tables.exec = Jvm.exec) {x y : Int32} (hd : decode c.code pc = .ok (.iushr, 1))
    (kk : Go p e below s CC SS QQ T (mkF m (pc + 1) Ls (.int (XT.ushr x y) :: rest))) : Go p e below s CC SS QQ T (mkF m pc Ls (.int y :: .int x :: rest)) := Go.st (fun _ => XT.iushr X.here hx rfl hd rfl) kk
theorem gIrem (X : Stand p l e R s m args below meth c T locs cells slots) (hx : p.tables.exec = Jvm.exec) {x y : Int32} (hd : decode c.code pc = .ok (.irem, 1)) (hy : y ≠ 0)
    (kk : Go p e below s CC SS QQ T (mkF m (pc + 1) Ls (.int (x % y) :: rest))) : Go p e below s CC SS QQ T (mkF m pc Ls (.int y :: .int x :: rest)) := Go.st (fun _ => iremM X hx rfl hd rfl hy) kk
theorem gI2b (X : Stand p l e R s m args below meth c T locs cells slots) (hx : p.tables.exec = Jvm.exec) {x : Int32} (hd : decode c.code pc = .ok (.i2b, 1))
    (kk : Go p e below s CC SS QQ T (mkF m (pc + 1) Ls (.int x.toInt8.toInt32 :: rest))) : Go p e below s CC SS QQ T (mkF m pc Ls (.int x :: rest)) := Go.st (fun _ => XT.i2b X.here hx rfl hd rfl) kk
theorem gI2c (X : Stand p l e R s m args below meth c T locs cells slots) (hx : p.tables.exec = Jvm.exec) {x : Int32} (hd : decode c.code pc = .ok (.i2c, 1))
    (kk : Go p e below s CC SS QQ T (mkF m (pc + 1) Ls (.int x.toUInt32.toUInt16.toUInt32.toInt32 :: rest))) : Go p e below s CC SS QQ T (mkF m pc Ls (.int x :: rest)) := Go.st (fun _ => XT.i2c X.here hx rfl hd rfl) kk
theorem gDup (X : Stand p l e R s m args below meth c T locs cells slots) (hx : p.tables.exec = Jvm.exec) {x : Value} (hd : decode c.code pc = .ok (.dup, 1)) (hc : x.category = 1)
    (kk : Go p e below s CC SS QQ T (mkF m (pc + 1) Ls (x :: x :: rest))) : Go p e below s CC SS QQ T (mkF m pc Ls (x :: rest)) := Go.st (fun _ => XS.dup X.here hx rfl hd rfl hc) kk
theorem gPop (X : Stand p l e R s m args below meth c T locs cells slots) (hx : p.tables.exec = Jvm.exec) {x : Value} (hd : decode c.code pc = .ok (.pop, 1)) (hc : x.category = 1)
    (kk : Go p e below s CC SS QQ T (mkF m (pc + 1) Ls rest)) : Go p e below s CC SS QQ T (mkF m pc Ls (x :: rest)) := Go.st (fun _ => XT.pop X.here hx rfl hd rfl hc) kk
theorem gIstoreN (X : Stand p l e R s m args below meth c T locs cells slots) (hx : p.tables.exec = Jvm.exec) {k : Fin 4} {x : Int32} (l' : Array Slot) (hd : decode c.code pc = .ok (.istore_n k, 1)) (hl : storeLocals Ls k.val (.int x) = some l')
    (kk : Go p e below s CC SS QQ T (mkF m (pc + 1) l' rest)) : Go p e below s CC SS QQ T (mkF m pc Ls (.int x :: rest)) := Go.st (fun _ => XS.istoreN X.here hx rfl hd rfl hl) kk
theorem gIstore (X : Stand p l e R s m args below meth c T locs cells slots) (hx : p.tables.exec = Jvm.exec) {k : Nat} {x : Int32} (l' : Array Slot) (hd : decode c.code pc = .ok (.istore k, 2)) (hl : storeLocals Ls k (.int x) = some l')
    (kk : Go p e below s CC SS QQ T (mkF m (pc + 2) l' rest)) : Go p e below s CC SS QQ T (mkF m pc Ls (.int x :: rest)) := Go.st (fun _ => XS.istore X.here hx rfl hd rfl hl) kk
theorem gAstoreN (X : Stand p l e R s m args below meth c T locs cells slots) (hx : p.tables.exec = Jvm.exec) {k : Fin 4} {x : Value} (l' : Array Slot) (hd : decode c.code pc = .ok (.astore_n k, 1)) (hv : x.isRef = true) (hl : storeLocals Ls k.val x = some l')
    (kk : Go p e below s CC SS QQ T (mkF m (pc + 1) l' rest)) : Go p e below s CC SS QQ T (mkF m pc Ls (x :: rest)) := Go.st (fun _ => XS.astoreN X.here hx rfl hd rfl hv hl) kk
theorem gAstore (X : Stand p l e R s m args below meth c T locs cells slots) (hx : p.tables.exec = Jvm.exec) {k : Nat} {x : Value} (l' : Array Slot) (hd : decode c.code pc = .ok (.astore k, 2)) (hv : x.isRef = true) (hl : storeLocals Ls k x = some l')
    (kk : Go p e below s CC SS QQ T (mkF m (pc + 2) l' rest)) : Go p e below s CC SS QQ T (mkF m pc Ls (x :: rest)) := Go.st (fun _ => XS.astore X.here hx rfl hd rfl hv hl) kk
theorem gIinc (X : Stand p l e R s m args below meth c T locs cells slots) (hx : p.tables.exec = Jvm.exec) {k : Nat} {cst : Int} {x : Int32} (v : Int32) (l' : Array Slot) (hd : decode c.code pc = .ok (.iinc k cst, 3)) (hv : Int32.ofInt cst = v) (hl : Ls[k]? = some (.val (.int x))) (hl' : storeLocals Ls k (.int (x + v)) = some l')
    (kk : Go p e below s CC SS QQ T (mkF m (pc + 3) l' rest)) : Go p e below s CC SS QQ T (mkF m pc Ls rest) := by subst hv; exact Go.st (fun _ => XS.iinc X.here hx rfl hd hl hl') kk
theorem gGoto (X : Stand p l e R s m args below meth c T locs cells slots) (hx : p.tables.exec = Jvm.exec) {o : Int} (pc' : Nat) (hd : decode c.code pc = .ok (.goto o, 3)) (ho : 0 ≤ (pc : Int) + o) (hp : ((pc : Int) + o).toNat = pc')
    (kk : Go p e below s CC SS QQ T (mkF m pc' Ls rest)) : Go p e below s CC SS QQ T (mkF m pc Ls rest) := Go.st (fun _ => XS.goto X.here hx rfl (pc0 := pc) rfl hd ho hp) kk
-- the branches: both roads
theorem gIcmp (X : Stand p l e R s m args below meth c T locs cells slots) (hx : p.tables.exec = Jvm.exec) {cd : ClassFile.Cond} {x y : Int32} {o : Int} (pc' : Nat) (hd : decode c.code pc = .ok (.if_icmp cd o, 3)) (ho : 0 ≤ (pc : Int) + o) (hp : ((pc : Int) + o).toNat = pc')
    (kt : if_icmp.holds cd x y = true → Go p e below s CC SS QQ T (mkF m pc' Ls rest)) (kf : if_icmp.holds cd x y = false → Go p e below s CC SS QQ T (mkF m (pc + 3) Ls rest)) : Go p e below s CC SS QQ T (mkF m pc Ls (.int y :: .int x :: rest)) := by
  cases hq : if_icmp.holds cd x y
  · exact Go.st (fun _ => XS.icmpNo X.here hx rfl hd rfl hq) (kf hq)
  · exact Go.st (fun _ => XS.icmpYes X.here hx rfl (pc0 := pc) rfl hd rfl hq ho hp) (kt hq)
theorem gIf (X : Stand p l e R s m args below meth c T locs cells slots) (hx : p.tables.exec = Jvm.exec) {cd : ClassFile.Cond} {x : Int32} {o : Int} (pc' : Nat) (hd : decode c.code pc = .ok (.ifCond cd o, 3)) (ho : 0 ≤ (pc : Int) + o) (hp : ((pc : Int) + o).toNat = pc')
    (kt : if_icmp.holds cd x 0 = true → Go p e below s CC SS QQ T (mkF m pc' Ls rest)) (kf : if_icmp.holds cd x 0 = false → Go p e below s CC SS QQ T (mkF m (pc + 3) Ls rest)) : Go p e below s CC SS QQ T (mkF m pc Ls (.int x :: rest)) := by
  cases hq : if_icmp.holds cd x 0
  · exact Go.st (fun _ => XS.ifNo X.here hx rfl hd rfl ((if0 _ _).trans hq)) (kf hq)
  · exact Go.st (fun _ => XS.ifYes X.here hx rfl (pc0 := pc) rfl hd rfl ((if0 _ _).trans hq) ho hp) (kt hq)
theorem o_eqT {x y : Int32} (h : if_icmp.holds .eq x y = true) : x = y := Decidable.byContradiction fun q => by rw [(feq q).1] at h; cases h
theorem o_eqF {x y : Int32} (h : if_icmp.holds .eq x y = false) : ¬ x = y := fun q => by rw [(teq q).1] at h; cases h
theorem o_neT {x y : Int32} (h : if_icmp.holds .ne x y = true) : ¬ x = y := fun q => by rw [(teq q).2] at h; cases h
theorem o_neF {x y : Int32} (h : if_icmp.holds .ne x y = false) : x = y := Decidable.byContradiction fun q => by rw [(feq q).2] at h; cases h
theorem o_ltT {x y : Int32} (h : if_icmp.holds .lt x y = true) : x < y := Decidable.byContradiction fun q => by rw [(flt q).1] at h; cases h
theorem o_ltF {x y : Int32} (h : if_icmp.holds .lt x y = false) : ¬ x < y := fun q => by rw [(tlt q).1] at h; cases h
theorem o_geT {x y : Int32} (h : if_icmp.holds .ge x y = true) : ¬ x < y := fun q => by rw [(tlt q).2.1] at h; cases h
theorem o_geF {x y : Int32} (h : if_icmp.holds .ge x y = false) : x < y := Decidable.byContradiction fun q => by rw [(flt q).2.1] at h; cases h
theorem o_gtT {x y : Int32} (h : if_icmp.holds .gt x y = true) : y < x := Decidable.byContradiction fun q => by rw [(flt q).2.2.1] at h; cases h
theorem o_gtF {x y : Int32} (h : if_icmp.holds .gt x y = false) : ¬ y < x := fun q => by rw [(tlt q).2.2.1] at h; cases h
theorem o_leT {x y : Int32} (h : if_icmp.holds .le x y = true) : ¬ y < x := fun q => by rw [(tlt q).2.2.2] at h; cases h
theorem o_leF {x y : Int32} (h : if_icmp.holds .le x y = false) : y < x := Decidable.byContradiction fun q => by rw [(flt q).2.2.2] at h; cases h
-- calls, by the callee's contract
theorem gStatic (X : Stand p l e R s m args below meth c T locs cells slots) (hx : p.tables.exec = Jvm.exec) (hZ : Z.Warmed39 s.vm) {own : String} {index : Nat} {y : MethodName} {bytes : ByteArray} {maxL : Nat} {ret : Option FieldType} {rm : Room} {Q' : Option Value → Heap → List Loc → Prop} {argsL rest : List Value} {W : Nat}
    (hown : s.vm.findClass own = some m.cls) (hy : y.cls ≠ "java/lang/invoke/MethodHandle" ∧ y.cls ≠ "java/lang/invoke/VarHandle") (w1 : (Cond.methodLink own index y).before a0 Z = true) (w2 : (Cond.static y).before a0 Z = true) (w3 : (Cond.initialized y.cls).before a0 Z = true) (w4 : (Cond.code y bytes maxL ret).before a0 Z = true)
    (hM : Met l Z y bytes maxL ret [] rm argsL.toArray h Q') (eT : T.heap = h) (hsize : Ls.size = c.maxLocals) (hlen : ∀ sig, parseMethodDescriptor y.desc = some sig → argsL.length = sig.parameters.length) {st : List Value} (hst : st = argsL.reverse ++ rest) (hW : (rest.map fun v => v.category).sum ≤ W)
    (hf : rm.frames + 1 ≤ R.frames) (hl : W + (maxL + 11) + rm.locals ≤ R.locals) (hc : cells + rm.cells ≤ R.cells) (hs : slots + rm.slots ≤ R.slots) (hd : decode c.code pc = .ok (.invokestatic index, 3))
    (kk : ∀ (v : Option Value) (T' : State) (L : List Loc), Stand p l e R s m args below meth c T' (locs ++ L) (cells + rm.cells) (slots + rm.slots) → Q' v T'.heap L → Go p e below s CC SS QQ T' (mkF m (pc + 3) Ls (v.toList ++ rest))) : Go p e below s CC SS QQ T (mkF m pc Ls st) := by
  subst hst
  obtain ⟨v, vm₁, ⟨T', L', k', n'⟩, -, X', ⟨Lc, hQ, l1, y1, z1⟩, st⟩ := Jvm.LawKit.callS X hx (y := y) hown (mvT hZ w1) (mvT hZ w2) (mvT hZ w3) (mvT hZ w4) hy (backOf (W := W) hM hZ w4 w3 hf hl) (g := mkF m pc Ls (argsL.reverse ++ rest)) rfl hsize (argsL := argsL) (rest := rest) hlen rfl (by show 2 * 0 + _ ≤ _; omega) hd (fun _ _ => ⟨rfl, eT, hc, hs⟩)
  dsimp only [Pt.U, Pt.locs, Pt.cells, Pt.slots] at X' l1 y1 z1 st hQ
  subst l1 y1 z1
  exact Go.st st (kk v T' Lc X' hQ)
theorem gInit (X : Stand p l e R s m args below meth c T locs cells slots) (hx : p.tables.exec = Jvm.exec) (hZ : Z.Warmed39 s.vm) {own : String} {index : Nat} {y : MethodName} {bytes : ByteArray} {maxL : Nat} {rm : Room} {Q' : Option Value → Heap → List Loc → Prop} {a : Addr} {argsL rest : List Value} {W : Nat}
    (hown : s.vm.findClass own = some m.cls) (hy1 : y.name = "<init>") (hy : y.cls ≠ "java/lang/invoke/MethodHandle" ∧ y.cls ≠ "java/lang/invoke/VarHandle") (w1 : (Cond.methodLink own index y).before a0 Z = true) (w2 : (Cond.instanceMethod y).before a0 Z = true) (w3 : (Cond.initialized y.cls).before a0 Z = true) (w4 : (Cond.code y bytes maxL none).before a0 Z = true)
    (hM : Met l Z y bytes maxL none [] rm (.ref a :: argsL).toArray h Q') (eT : T.heap = h) (hsize : Ls.size = c.maxLocals) (hlen : ∀ sig, parseMethodDescriptor y.desc = some sig → argsL.length = sig.parameters.length) {st : List Value} (hst : st = argsL.reverse ++ .ref a :: rest) (hW : (rest.map fun v => v.category).sum ≤ W)
    (hf : rm.frames + 1 ≤ R.frames) (hl : W + (maxL + 11) + rm.locals ≤ R.locals) (hc : cells + rm.cells ≤ R.cells) (hs : slots + rm.slots ≤ R.slots) (hd : decode c.code pc = .ok (.invokespecial index, 3))
    (kk : ∀ (v : Option Value) (T' : State) (L : List Loc), Stand p l e R s m args below meth c T' (locs ++ L) (cells + rm.cells) (slots + rm.slots) → Q' v T'.heap L → Go p e below s CC SS QQ T' (mkF m (pc + 3) Ls (v.toList ++ rest))) : Go p e below s CC SS QQ T (mkF m pc Ls st) := by
  subst hst
  obtain ⟨v, vm₁, ⟨T', L', k', n'⟩, -, X', ⟨Lc, hQ, l1, y1, z1⟩, st⟩ := X.specialBack hx (y := y) hy1 hown (mvT hZ w1) (mvT hZ w2) (mvT hZ w4) hy (backOf (W := W) hM hZ w4 w3 hf hl) (g := mkF m pc Ls (argsL.reverse ++ .ref a :: rest)) rfl hsize (Steps.refl _) (a := a) (argsL := argsL) (rest := rest) hlen rfl (by show 2 * 0 + _ ≤ _; omega) hd (fun _ _ => ⟨rfl, eT, hc, hs⟩)
  dsimp only [Pt.U, Pt.locs, Pt.cells, Pt.slots] at X' l1 y1 z1 st hQ
  subst l1 y1 z1
  exact Go.tr st (kk v T' Lc X' hQ)
theorem gVirtual (X : Stand p l e R s m args below meth c T locs cells slots) (hx : p.tables.exec = Jvm.exec) (hZ : Z.Warmed39 s.vm) {own : String} {index : Nat} {y : MethodName} {bytes : ByteArray} {maxL : Nat} {ret : Option FieldType} {rm : Room} {Q' : Option Value → Heap → List Loc → Prop} {a : Addr} {argsL rest : List Value} {W : Nat}
    (hown : s.vm.findClass own = some m.cls) (hy : y.cls ≠ "java/lang/invoke/MethodHandle" ∧ y.cls ≠ "java/lang/invoke/VarHandle") (w1 : (Cond.methodLink own index y).before a0 Z = true) (w2 : (Cond.declares y).before a0 Z = true) (w5 : (Cond.instanceMethod y).before a0 Z = true) (w6 : (Cond.selects y.cls y y).before a0 Z = true) (w3 : (Cond.initialized y.cls).before a0 Z = true) (w4 : (Cond.code y bytes maxL ret).before a0 Z = true)
    (E : Exa Z h a y.cls) (hM : Met l Z y bytes maxL ret [] rm (.ref a :: argsL).toArray h Q') (eT : T.heap = h) (hsize : Ls.size = c.maxLocals) (hlen : ∀ sig, parseMethodDescriptor y.desc = some sig → argsL.length = sig.parameters.length) {st : List Value} (hst : st = argsL.reverse ++ .ref a :: rest) (hW : (rest.map fun v => v.category).sum ≤ W)
    (hf : rm.frames + 1 ≤ R.frames) (hl : W + (maxL + 11) + rm.locals ≤ R.locals) (hc : cells + rm.cells ≤ R.cells) (hs : slots + rm.slots ≤ R.slots) (hd : decode c.code pc = .ok (.invokevirtual index, 3))
    (kk : ∀ (v : Option Value) (T' : State) (L : List Loc), Stand p l e R s m args below meth c T' (locs ++ L) (cells + rm.cells) (slots + rm.slots) → Q' v T'.heap L → Go p e below s CC SS QQ T' (mkF m (pc + 3) Ls (v.toList ++ rest))) : Go p e below s CC SS QQ T (mkF m pc Ls st) := by
  subst hst
  obtain ⟨cq, kq, qa, qb, qc⟩ := isOf hZ eT E
  obtain ⟨v, vm₁, ⟨T', L', k', n'⟩, -, X', ⟨Lc, hQ, l1, y1, z1⟩, st⟩ := X.virtualBack hx (y := y) (z := y) hown (mvT hZ w1) (mvT hZ w2) (notFace_of_selects (args := #[]) (mvT hZ w6)) (mvT hZ w6) (mvT hZ w5) hy (backOf (W := W) hM hZ w4 w3 hf hl) qa qc (g := mkF m pc Ls (argsL.reverse ++ .ref a :: rest)) rfl hsize (Steps.refl _) (argsL := argsL) (rest := rest) hlen rfl (by show 2 * 0 + _ ≤ _; omega) hd (fun _ _ => ⟨rfl, eT, hc, hs⟩)
  dsimp only [Pt.U, Pt.locs, Pt.cells, Pt.slots] at X' l1 y1 z1 st hQ
  subst l1 y1 z1
  exact Go.tr st (kk v T' Lc X' hQ)
theorem gPrivate (X : Stand p l e R s m args below meth c T locs cells slots) (hx : p.tables.exec = Jvm.exec) (hZ : Z.Warmed39 s.vm) {own : String} {index : Nat} {y : MethodName} {bytes : ByteArray} {maxL : Nat} {ret : Option FieldType} {rm : Room} {Q' : Option Value → Heap → List Loc → Prop} {a : Addr} {C : String} {argsL rest : List Value} {W : Nat}
    (hown : s.vm.findClass own = some m.cls) (hy : y.cls ≠ "java/lang/invoke/MethodHandle" ∧ y.cls ≠ "java/lang/invoke/VarHandle") (w1 : (Cond.methodLink own index y).before a0 Z = true) (w2 : (Cond.instanceMethod y).before a0 Z = true) {kq : Nat} (w6 : (Cond.instantiable y.cls kq).before a0 Z = true) (w5 : (Cond.privateMethod y).before a0 Z = true) (w3 : (Cond.initialized y.cls).before a0 Z = true) (w4 : (Cond.code y bytes maxL ret).before a0 Z = true)
    (E : Exa Z h a C) (hM : Met l Z y bytes maxL ret [] rm (.ref a :: argsL).toArray h Q') (eT : T.heap = h) (hsize : Ls.size = c.maxLocals) (hlen : ∀ sig, parseMethodDescriptor y.desc = some sig → argsL.length = sig.parameters.length) {st : List Value} (hst : st = argsL.reverse ++ .ref a :: rest) (hW : (rest.map fun v => v.category).sum ≤ W)
    (hf : rm.frames + 1 ≤ R.frames) (hl : W + (maxL + 11) + rm.locals ≤ R.locals) (hc : cells + rm.cells ≤ R.cells) (hs : slots + rm.slots ≤ R.slots) (hd : decode c.code pc = .ok (.invokevirtual index, 3))
    (kk : ∀ (v : Option Value) (T' : State) (L : List Loc), Stand p l e R s m args below meth c T' (locs ++ L) (cells + rm.cells) (slots + rm.slots) → Q' v T'.heap L → Go p e below s CC SS QQ T' (mkF m (pc + 3) Ls (v.toList ++ rest))) : Go p e below s CC SS QQ T (mkF m pc Ls st) := by
  subst hst
  obtain ⟨cq, q1, q2⟩ := E.cell
  obtain ⟨ci, ki, hi1, hi2, -, hi3, -⟩ := Cond.instantiable_spec (mvT (args := #[]) hZ w6)
  have hsel : (Cond.selects y.cls y y).before args s = true := selects_self_of_private hi1 hi2 (by simpa using (Bool.or_eq_false_iff.mp hi3).1) (Cond.privateMethod_at (mvP hZ w5 (args := #[]))) (mvT hZ w2) hy
  obtain ⟨v, vm₁, ⟨T', L', k', n'⟩, -, X', ⟨Lc, hQ, l1, y1, z1⟩, st⟩ := X.privateBack hx (y := y) hown (mvT hZ w1) (mvT hZ w2) hsel (Cond.privateMethod_at (mvP hZ w5 (args := #[]))) (mvT hZ w4) hy (backOf (W := W) hM hZ w4 w3 hf hl) (g := mkF m pc Ls (argsL.reverse ++ .ref a :: rest)) rfl hsize (Steps.refl _) (a := a) (by rw [eT]; exact q1) q2 (argsL := argsL) (rest := rest) hlen rfl (by show 2 * 0 + _ ≤ _; omega) hd (fun _ _ => ⟨rfl, eT, hc, hs⟩)
  dsimp only [Pt.U, Pt.locs, Pt.cells, Pt.slots] at X' l1 y1 z1 st hQ
  subst l1 y1 z1
  exact Go.tr st (kk v T' Lc X' hQ)
theorem gObjInit (X : Stand p l e R s m args below meth c T locs cells slots) (hx : p.tables.exec = Jvm.exec) (hZ : Z.Warmed39 s.vm) {own : String} {idx : Nat} (hown : s.vm.findClass own = some m.cls) (w1 : (Cond.methodLink own idx Lib.objectInit).before a0 Z = true) (w2 : (Cond.instanceMethod Lib.objectInit).before a0 Z = true)
    (w3 : (Cond.code Lib.objectInit object_method_1_code 1 none).before a0 Z = true) (eT : T.heap = h) (hsize : Ls.size = c.maxLocals) {a : Addr} (hd : decode c.code pc = .ok (.invokespecial idx, 3)) (hf : 1 ≤ R.frames) {W : Nat} (hW : (rest.map fun v => v.category).sum ≤ W) (hl : W + 12 ≤ R.locals)
    (kk : ∀ T', Stand p l e R s m args below meth c T' locs cells slots → T'.heap = h → Go p e below s CC SS QQ T' (mkF m (pc + 3) Ls rest)) : Go p e below s CC SS QQ T (mkF m pc Ls (.ref a :: rest)) := by
  obtain ⟨T', X', e', st⟩ := initO X hx hZ hown w1 w2 w3 eT (g := mkF m pc Ls (.ref a :: rest)) rfl hsize rfl hd hf (W := W) (by show 2 * 0 + _ ≤ _; omega) hl
  exact Go.st st (kk T' X' e')
-- fields, new objects, arrays
theorem gGetF (X : Stand p l e R s m args below meth c T locs cells slots) (hx : p.tables.exec = Jvm.exec) (hZ : Z.Warmed39 s.vm) {own O n d : String} {index : Nat} (hown : s.vm.findClass own = some m.cls) (w : (Cond.fieldLink own index O n d).before a0 Z = true) (eT : T.heap = h) {a : Addr} {v : Value} (F : Fld Z h a O n d v) (hd : decode c.code pc = .ok (.getfield index, 3))
    (kk : ∀ T', Stand p l e R s m args below meth c T' locs cells slots → T'.heap = h → Go p e below s CC SS QQ T' (mkF m (pc + 3) Ls (v :: rest))) : Go p e below s CC SS QQ T (mkF m pc Ls (.ref a :: rest)) := by
  obtain ⟨T', X', e', st⟩ := getF X hx hZ hown (host := "") (Or.inl w) Via.refl eT F (g := mkF m pc Ls (.ref a :: rest)) rfl rfl hd
  exact Go.st st (kk T' X' e')
theorem gPutF (X : Stand p l e R s m args below meth c T locs cells slots) (hx : p.tables.exec = Jvm.exec) (hZ : Z.Warmed39 s.vm) {own O n d C : String} {index kq : Nat} {ty : FieldType} (hown : s.vm.findClass own = some m.cls) (w : (Cond.fieldLink own index O n d).before a0 Z = true) (eT : T.heap = h) {a : Addr} {v old : Value} (F : Fld Z h a O n d old) (E : Exa Z h a C)
    (L : (Cond.lays C O n d).before a0 Z = true ∨ ((Cond.laysFinal C O n d).before a0 Z = true ∧ own = O ∧ meth.name = "<init>")) (wi : (Cond.instantiable C kq).before a0 Z = true) (hty : parseFieldDescriptor d = some ty) (hn : narrow ty v = v) (hf : fits ty v = true) (hd : decode c.code pc = .ok (.putfield index, 3))
    (kk : ∀ T' h', Stand p l e R s m args below meth c T' (locs ++ [⟨a, Jvm.RoadKit.slotOf Z O n d⟩]) cells slots → T'.heap = h' → Wr h h' a (Jvm.RoadKit.slotOf Z O n d) v → Go p e below s CC SS QQ T' (mkF m (pc + 3) Ls rest)) : Go p e below s CC SS QQ T (mkF m pc Ls (v :: .ref a :: rest)) := by
  obtain ⟨T', h', X', e', W', st⟩ := putF X hx hZ hown (host := "") (Or.inl w) Via.refl eT F E L wi hty hn hf (g := mkF m pc Ls (v :: .ref a :: rest)) rfl rfl hd
  exact Go.st st (kk T' h' X' e' W')
theorem gPutFN (X : Stand p l e R s m args below meth c T locs cells slots) (hx : p.tables.exec = Jvm.exec) (hZ : Z.Warmed39 s.vm) {own O n d C : String} {index kq : Nat} {ty : FieldType} (hown : s.vm.findClass own = some m.cls) (w : (Cond.fieldLink own index O n d).before a0 Z = true) (eT : T.heap = h) {a : Addr} {v old : Value} (v' : Value) (F : Fld Z h a O n d old) (E : Exa Z h a C)
    (L : (Cond.lays C O n d).before a0 Z = true ∨ ((Cond.laysFinal C O n d).before a0 Z = true ∧ own = O ∧ meth.name = "<init>")) (wi : (Cond.instantiable C kq).before a0 Z = true) (hty : parseFieldDescriptor d = some ty) (hn : narrow ty v = v') (hf : fits ty v' = true) (hd : decode c.code pc = .ok (.putfield index, 3))
    (kk : ∀ T' h', Stand p l e R s m args below meth c T' (locs ++ [⟨a, Jvm.RoadKit.slotOf Z O n d⟩]) cells slots → T'.heap = h' → Wr h h' a (Jvm.RoadKit.slotOf Z O n d) v' → Go p e below s CC SS QQ T' (mkF m (pc + 3) Ls rest)) : Go p e below s CC SS QQ T (mkF m pc Ls (v :: .ref a :: rest)) := by
  obtain ⟨T', h', X', e', W', st⟩ := putFN X hx hZ hown w Via.refl eT F E L wi hty hn hf (g := mkF m pc Ls (v :: .ref a :: rest)) rfl rfl hd
  exact Go.st st (kk T' h' X' e' W')
theorem gNew (X : Stand p l e R s m args below meth c T locs cells slots) (hx : p.tables.exec = Jvm.exec) (hZ : Z.Warmed39 s.vm) {own C : String} {index n : Nat} (hown : s.vm.findClass own = some m.cls) (w : (Cond.classLink own index C).before a0 Z = true) (wi : (Cond.instantiable C n).before a0 Z = true) (wz : (Cond.initialized C).before a0 Z = true) (eT : T.heap = h)
    (hd : decode c.code pc = .ok (.new index, 3)) (hc : cells + 1 ≤ R.cells) (hl : slots + n ≤ R.slots)
    (kk : ∀ T' h' b, Stand p l e R s m args below meth c T' locs (cells + 1) (slots + n) → T'.heap = h' → Ext h h' → b = h.size → Exa Z h' b C → (∀ {O nm d : String} {ty : FieldType}, Laid Z a0 C O nm d → parseFieldDescriptor d = some ty → Fld Z h' b O nm d (defaultValue ty)) → Go p e below s CC SS QQ T' (mkF m (pc + 3) Ls (.ref b :: rest))) : Go p e below s CC SS QQ T (mkF m pc Ls rest) := by
  obtain ⟨T', h', X', e', E', A', D', -, st⟩ := newO X hx hZ hown w wi wz eT (g := mkF m pc Ls rest) rfl hd hc hl
  exact Go.st st (kk T' h' _ X' e' E' rfl A' D')
theorem gNewArr (X : Stand p l e R s m args below meth c T locs cells slots) (hx : p.tables.exec = Jvm.exec) (hZ : Z.Warmed39 s.vm) {aty : ArrayType} (w : (Cond.arrayClass (newarray.typeOf aty)).before a0 Z = true) (eT : T.heap = h) (hd : decode c.code pc = .ok (.newarray aty, 2)) {n : Int32} (hn : ¬ n < 0) {cap : Nat} (hcap : n.toNatClampNeg ≤ cap) (hb : cap * 8 ≤ 536870912) (hc : cells + 1 ≤ R.cells) (hl : slots + cap ≤ R.slots)
    (kk : ∀ T' h' b cA, Stand p l e R s m args below meth c T' locs (cells + 1) (slots + cap) → T'.heap = h' → Ext h h' → b = h.size → Arr Z h' b (newA cA (newarray.typeOf aty) n) (newarray.typeOf aty) → Go p e below s CC SS QQ T' (mkF m (pc + 2) Ls (.ref b :: rest))) : Go p e below s CC SS QQ T (mkF m pc Ls (.int n :: rest)) := by
  obtain ⟨T', h', cA, X', e', E', A', st⟩ := newP X hx hZ w eT (g := mkF m pc Ls (.int n :: rest)) rfl hd rfl hn (cap := cap) hcap hb hc hl
  exact Go.st st (kk T' h' _ cA X' e' E' rfl A')
/-- an array of ints (or of bytes): n places, the j-th holds f j -/
def IA (Z : State) (h : Heap) (a : Addr) (ty : FieldType) (n : Nat) (f : Nat → Int32) : Prop := ∃ cl : Cell, Arr Z h a cl ty ∧ cl.slots.size = n ∧ ∀ j, j < n → cl.slots[j]? = some (.int (f j))
def upd (f : Nat → Int32) (k : Nat) (v : Int32) : Nat → Int32 := fun j => if j = k then v else f j
theorem IA.lt {a : Addr} {ty : FieldType} {n : Nat} {f : Nat → Int32} (F : IA Z h a ty n f) : a < h.size := by obtain ⟨cl, A, -⟩ := F; exact A.lt
theorem IA.ext {h' : Heap} {a : Addr} {ty : FieldType} {n : Nat} {f : Nat → Int32} (F : IA Z h a ty n f) (E : Ext h h') : IA Z h' a ty n f := by obtain ⟨cl, A, r⟩ := F; exact ⟨cl, A.ext E, r⟩
theorem IA.other {h' : Heap} {a b : Addr} {sl : Nat} {v : Value} {ty : FieldType} {n : Nat} {f : Nat → Int32} (F : IA Z h a ty n f) (W : Wr h h' b sl v) (q : a ≠ b) : IA Z h' a ty n f := by obtain ⟨cl, A, r⟩ := F; exact ⟨cl, A.other W q, r⟩
theorem IA.keep {h' : Heap} {a : Addr} {ws : List Addr} {ty : FieldType} {n : Nat} {f : Nat → Int32} (F : IA Z h a ty n f) (K : Keep h h' ws) (q : a ∉ ws) : IA Z h' a ty n f := by
  obtain ⟨cl, A, r⟩ := F
  exact ⟨cl, ⟨K.2.1 a cl A.1 q, A.2⟩, r⟩
theorem IA.set {h' : Heap} {a : Addr} {k : Nat} {v : Int32} {ty : FieldType} {n : Nat} {f : Nat → Int32} (F : IA Z h a ty n f) (W : Wr h h' a k (.int v)) : IA Z h' a ty n (upd f k v) := by
  obtain ⟨cl, A, hs, hf⟩ := F
  refine ⟨_, A.same W, by rw [sz_set]; exact hs, fun j hj => ?_⟩
  show (cl.slots.setIfInBounds k (.int v))[j]? = _
  rw [Array.getElem?_setIfInBounds]
  by_cases q : k = j
  · subst q
    rw [if_pos rfl, if_pos (by rw [hs]; exact hj)]
    simp [upd]
  · rw [if_neg q, hf j hj]
    show _ = some (Value.int (if j = k then v else f j))
    rw [if_neg fun z => q z.symm]
theorem IA.congr {a : Addr} {ty : FieldType} {n : Nat} {f g : Nat → Int32} (F : IA Z h a ty n f) (q : ∀ j, j < n → f j = g j) : IA Z h a ty n g := by
  obtain ⟨cl, A, hs, hf⟩ := F
  exact ⟨cl, A, hs, fun j hj => by rw [hf j hj, q j hj]⟩
theorem IA.new {a : Addr} {cA : ClassId} {ty : FieldType} {z : Int32} (hty : defaultValue ty = .int 0) (A : Arr Z h a (newA cA ty z) ty) : IA Z h a ty z.toNatClampNeg (fun _ => 0) := by
  refine ⟨_, A, sz_new _ _ _, fun j hj => ?_⟩
  simp [newA, hj, hty]
theorem gIaload (X : Stand p l e R s m args below meth c T locs cells slots) (hx : p.tables.exec = Jvm.exec) (hZ : Z.Warmed39 s.vm) (eT : T.heap = h) {a : Addr} {n : Nat} {f : Nat → Int32} (F : IA Z h a .int n f) {j : Int32} (hj : ¬ j < 0 ∧ j.toNatClampNeg < n) (hd : decode c.code pc = .ok (.iaload, 1))
    (kk : Go p e below s CC SS QQ T (mkF m (pc + 1) Ls (.int (f j.toNatClampNeg) :: rest))) : Go p e below s CC SS QQ T (mkF m pc Ls (.int j :: .ref a :: rest)) := by
  obtain ⟨cl, A, hs, hf⟩ := F
  exact Go.st (X.iaload hx (j := j) (v := .int (f j.toNatClampNeg)) (by rw [eT]; exact A.1) (State.isArrayOf_alike hZ.alike A.2.1) A.2.2 (fun q => q.elim hj.1 fun r => absurd hj.2 (Nat.not_lt.mpr (hs ▸ r))) (hf _ hj.2) (g := mkF m pc Ls (.int j :: .ref a :: rest)) rfl rfl hd) kk
theorem gBaload (X : Stand p l e R s m args below meth c T locs cells slots) (hx : p.tables.exec = Jvm.exec) (hZ : Z.Warmed39 s.vm) (eT : T.heap = h) {a : Addr} {n : Nat} {f : Nat → Int32} (F : IA Z h a .byte n f) {j : Int32} (hj : ¬ j < 0 ∧ j.toNatClampNeg < n) (hd : decode c.code pc = .ok (.baload, 1))
    (kk : Go p e below s CC SS QQ T (mkF m (pc + 1) Ls (.int (f j.toNatClampNeg) :: rest))) : Go p e below s CC SS QQ T (mkF m pc Ls (.int j :: .ref a :: rest)) := by
  obtain ⟨cl, A, hs, hf⟩ := F
  exact Go.st (X.baloadBytes hx (j := j) (v := .int (f j.toNatClampNeg)) (by rw [eT]; exact A.1) (State.isArrayOf_alike hZ.alike A.2.1) A.2.2 (fun q => q.elim hj.1 fun r => absurd hj.2 (Nat.not_lt.mpr (hs ▸ r))) (hf _ hj.2) (g := mkF m pc Ls (.int j :: .ref a :: rest)) rfl rfl hd) kk
theorem gIastore (X : Stand p l e R s m args below meth c T locs cells slots) (hx : p.tables.exec = Jvm.exec) (hZ : Z.Warmed39 s.vm) (eT : T.heap = h) {a : Addr} {n : Nat} {f : Nat → Int32} (F : IA Z h a .int n f) {j x : Int32} (k : Nat) (hk : j.toNatClampNeg = k) (hj : ¬ j < 0 ∧ k < n) (hd : decode c.code pc = .ok (.iastore, 1))
    (kk : ∀ T' h', Stand p l e R s m args below meth c T' (locs ++ [⟨a, k⟩]) cells slots → T'.heap = h' → Wr h h' a k (.int x) → IA Z h' a .int n (upd f k x) → Go p e below s CC SS QQ T' (mkF m (pc + 1) Ls rest)) : Go p e below s CC SS QQ T (mkF m pc Ls (.int x :: .int j :: .ref a :: rest)) := by
  subst hk
  obtain ⟨cl, A, hs, hf⟩ := id F
  obtain ⟨T', h', X', e', W', st⟩ := stI X hx hZ eT A (j := j) (x := x) (fun q => q.elim hj.1 fun r => absurd hj.2 (Nat.not_lt.mpr (hs ▸ r))) (g := mkF m pc Ls (.int x :: .int j :: .ref a :: rest)) rfl rfl hd
  exact Go.st st (kk T' h' X' e' W' (F.set W'))
theorem gBastore (X : Stand p l e R s m args below meth c T locs cells slots) (hx : p.tables.exec = Jvm.exec) (hZ : Z.Warmed39 s.vm) (eT : T.heap = h) {a : Addr} {n : Nat} {f : Nat → Int32} (F : IA Z h a .byte n f) {j x : Int32} (k : Nat) (hk : j.toNatClampNeg = k) (hj : ¬ j < 0 ∧ k < n) (hd : decode c.code pc = .ok (.bastore, 1))
    (kk : ∀ T' h', Stand p l e R s m args below meth c T' (locs ++ [⟨a, k⟩]) cells slots → T'.heap = h' → Wr h h' a k (.int (nar .byte x)) → IA Z h' a .byte n (upd f k (nar .byte x)) → Go p e below s CC SS QQ T' (mkF m (pc + 1) Ls rest)) : Go p e below s CC SS QQ T (mkF m pc Ls (.int x :: .int j :: .ref a :: rest)) := by
  subst hk
  obtain ⟨cl, A, hs, hf⟩ := id F
  obtain ⟨T', h', X', e', W', st⟩ := stB X hx hZ eT A (j := j) (x := x) (fun q => q.elim hj.1 fun r => absurd hj.2 (Nat.not_lt.mpr (hs ▸ r))) (g := mkF m pc Ls (.int x :: .int j :: .ref a :: rest)) rfl rfl hd
  exact Go.st st (kk T' h' X' e' W' (F.set W'))
theorem gLength (X : Stand p l e R s m args below meth c T locs cells slots) (hx : p.tables.exec = Jvm.exec) (hZ : Z.Warmed39 s.vm) (eT : T.heap = h) {a : Addr} {ty : FieldType} {n : Nat} {f : Nat → Int32} (F : IA Z h a ty n f) (hd : decode c.code pc = .ok (.arraylength, 1))
    (kk : Go p e below s CC SS QQ T (mkF m (pc + 1) Ls (.int n.toInt32 :: rest))) : Go p e below s CC SS QQ T (mkF m pc Ls (.ref a :: rest)) := by
  obtain ⟨cl, A, hs, hf⟩ := F
  subst hs
  exact Go.st (X.arraylength hx (by rw [eT]; exact A.1) (State.isArrayOf_alike hZ.alike A.2.1) (g := mkF m pc Ls (.ref a :: rest)) rfl rfl hd) kk
theorem own_nb (x : Int32) : nar .byte x.toInt8.toInt32 = x.toInt8.toInt32 := by simp [nar]
theorem own_nz {b : Int32} (h : b = 0 ∨ b = 1) : narrow .boolean (.int b) = .int b := by rcases h with rfl | rfl <;> rfl
theorem own_fz {b : Int32} (h : b = 0 ∨ b = 1) : fits .boolean (.int b) = true := by rcases h with rfl | rfl <;> rfl
end OwnKit
theorem tw {a0 : Array Value} {Z : State} (hw : ∀ d ∈ tables_1, d.before a0 Z = true) (k : Nat) {d : Jvm.Cond} (h : tables_1[k]? = some d) : d.before a0 Z = true := hw _ (List.mem_of_getElem? h)
theorem own_ne_r0_x1 {r0 x1 x2 x3 x4 x5 : Nat} (h : r0 < x1 ∧ x1 < x2 ∧ x2 < x3 ∧ x3 < x4 ∧ x4 < x5) : r0 ≠ x1 := by omega
theorem own_ne_r0_x2 {r0 x1 x2 x3 x4 x5 : Nat} (h : r0 < x1 ∧ x1 < x2 ∧ x2 < x3 ∧ x3 < x4 ∧ x4 < x5) : r0 ≠ x2 := by omega
theorem own_ne_r0_x3 {r0 x1 x2 x3 x4 x5 : Nat} (h : r0 < x1 ∧ x1 < x2 ∧ x2 < x3 ∧ x3 < x4 ∧ x4 < x5) : r0 ≠ x3 := by omega
theorem own_ne_r0_x4 {r0 x1 x2 x3 x4 x5 : Nat} (h : r0 < x1 ∧ x1 < x2 ∧ x2 < x3 ∧ x3 < x4 ∧ x4 < x5) : r0 ≠ x4 := by omega
theorem own_ne_r0_x5 {r0 x1 x2 x3 x4 x5 : Nat} (h : r0 < x1 ∧ x1 < x2 ∧ x2 < x3 ∧ x3 < x4 ∧ x4 < x5) : r0 ≠ x5 := by omega
theorem own_ne_x1_x2 {r0 x1 x2 x3 x4 x5 : Nat} (h : r0 < x1 ∧ x1 < x2 ∧ x2 < x3 ∧ x3 < x4 ∧ x4 < x5) : x1 ≠ x2 := by omega
theorem own_ne_x1_x3 {r0 x1 x2 x3 x4 x5 : Nat} (h : r0 < x1 ∧ x1 < x2 ∧ x2 < x3 ∧ x3 < x4 ∧ x4 < x5) : x1 ≠ x3 := by omega
theorem own_ne_x1_x4 {r0 x1 x2 x3 x4 x5 : Nat} (h : r0 < x1 ∧ x1 < x2 ∧ x2 < x3 ∧ x3 < x4 ∧ x4 < x5) : x1 ≠ x4 := by omega
theorem own_ne_x1_x5 {r0 x1 x2 x3 x4 x5 : Nat} (h : r0 < x1 ∧ x1 < x2 ∧ x2 < x3 ∧ x3 < x4 ∧ x4 < x5) : x1 ≠ x5 := by omega
theorem own_ne_x2_x3 {r0 x1 x2 x3 x4 x5 : Nat} (h : r0 < x1 ∧ x1 < x2 ∧ x2 < x3 ∧ x3 < x4 ∧ x4 < x5) : x2 ≠ x3 := by omega
theorem own_ne_x2_x4 {r0 x1 x2 x3 x4 x5 : Nat} (h : r0 < x1 ∧ x1 < x2 ∧ x2 < x3 ∧ x3 < x4 ∧ x4 < x5) : x2 ≠ x4 := by omega
theorem own_ne_x2_x5 {r0 x1 x2 x3 x4 x5 : Nat} (h : r0 < x1 ∧ x1 < x2 ∧ x2 < x3 ∧ x3 < x4 ∧ x4 < x5) : x2 ≠ x5 := by omega
theorem own_ne_x3_x4 {r0 x1 x2 x3 x4 x5 : Nat} (h : r0 < x1 ∧ x1 < x2 ∧ x2 < x3 ∧ x3 < x4 ∧ x4 < x5) : x3 ≠ x4 := by omega
theorem own_ne_x3_x5 {r0 x1 x2 x3 x4 x5 : Nat} (h : r0 < x1 ∧ x1 < x2 ∧ x2 < x3 ∧ x3 < x4 ∧ x4 < x5) : x3 ≠ x5 := by omega
theorem own_ne_x4_x5 {r0 x1 x2 x3 x4 x5 : Nat} (h : r0 < x1 ∧ x1 < x2 ∧ x2 < x3 ∧ x3 < x4 ∧ x4 < x5) : x4 ≠ x5 := by omega
theorem own_ge_x1 {n0 r0 x1 x2 x3 x4 x5 : Nat} (g : n0 ≤ r0) (h : r0 < x1 ∧ x1 < x2 ∧ x2 < x3 ∧ x3 < x4 ∧ x4 < x5) : n0 ≤ x1 := by omega
theorem own_ge_x2 {n0 r0 x1 x2 x3 x4 x5 : Nat} (g : n0 ≤ r0) (h : r0 < x1 ∧ x1 < x2 ∧ x2 < x3 ∧ x3 < x4 ∧ x4 < x5) : n0 ≤ x2 := by omega
theorem own_ge_x3 {n0 r0 x1 x2 x3 x4 x5 : Nat} (g : n0 ≤ r0) (h : r0 < x1 ∧ x1 < x2 ∧ x2 < x3 ∧ x3 < x4 ∧ x4 < x5) : n0 ≤ x3 := by omega
theorem own_ge_x4 {n0 r0 x1 x2 x3 x4 x5 : Nat} (g : n0 ≤ r0) (h : r0 < x1 ∧ x1 < x2 ∧ x2 < x3 ∧ x3 < x4 ∧ x4 < x5) : n0 ≤ x4 := by omega
theorem own_ge_x5 {n0 r0 x1 x2 x3 x4 x5 : Nat} (g : n0 ≤ r0) (h : r0 < x1 ∧ x1 < x2 ∧ x2 < x3 ∧ x3 < x4 ∧ x4 < x5) : n0 ≤ x5 := by omega
theorem own_one (i : Nat) : Int32.ofNat i + (1 : Int32) = Int32.ofNat (i + 1) := (Int32.ofNat_add i 1).symm
theorem own_n32 {n : Nat} (hn : n ≤ 8) : (Int32.ofNat n).toNatClampNeg = n := by
  rw [Int32.toNatClampNeg, Int32.toInt_ofNat_of_lt (by omega)]; rfl
theorem own_nn {n : Nat} (hn : n ≤ 8) : ¬ Int32.ofNat n < 0 := by
  rw [Int32.lt_iff_toInt_lt, Int32.toInt_ofNat_of_lt (by omega), show (0 : Int32).toInt = 0 from rfl]
  omega
theorem own_lt {i n : Nat} (hn : n ≤ 8) (hi : i ≤ n) : (Int32.ofNat i < Int32.ofNat n) ↔ i < n := by
  rw [Int32.lt_iff_toInt_lt, Int32.toInt_ofNat_of_lt (by omega), Int32.toInt_ofNat_of_lt (by omega)]
  omega
theorem own_len (n : Nat) : Nat.toInt32 n = Int32.ofNat n := rfl
theorem own_upd {f : Nat → Int32} {i : Nat} {v : Int32} (h : ∀ j, j < i → f j = v) : ∀ j, j < i + 1 → upd f i v j = v := fun j hj => by
  by_cases q : j = i
  · simp [upd, q]
  · simp only [upd, if_neg q]; exact h j (by omega)
theorem IA.num {Z : State} {h : Heap} {a : Addr} {ty : FieldType} {n n' : Nat} {f : Nat → Int32} (F : IA Z h a ty n f) (q : n = n') : IA Z h a ty n' f := q ▸ F
def own_h (op a b c : Int32) : Int32 := (((op * (668265263 : Int32)) + (a * (-1640531535 : Int32))) + (b * (-2048144777 : Int32))) + (c * (-1028477379 : Int32))
def own_slot (mk op a b c : Int32) : Int32 := ((own_h op a b c) ^^^ (XT.ushr (own_h op a b c) (16 : Int32))) &&& mk
def own_lk (f1 f2 f3 f4 f5 : Nat → Int32) (k : Nat) (op a b c : Int32) : Int32 := if f1 k = op then (if f2 k = a then (if f3 k = b then (if f4 k = c then f5 k else (-1 : Int32)) else (-1 : Int32)) else (-1 : Int32)) else (-1 : Int32)
theorem own_hit (f1 f2 f3 f4 f5 : Nat → Int32) (s : Nat) (op a b c r : Int32) : own_lk (upd f1 s op) (upd f2 s a) (upd f3 s b) (upd f4 s c) (upd f5 s r) s op a b c = r := by simp [own_lk, upd]
theorem own_miss (f1 f2 f3 f4 f5 : Nat → Int32) {s : Nat} {op a b c : Int32} {op2 a2 b2 c2 r2 : Int32} (hne : ¬ (op2 = op ∧ a2 = a ∧ b2 = b ∧ c2 = c)) : own_lk (upd f1 s op2) (upd f2 s a2) (upd f3 s b2) (upd f4 s c2) (upd f5 s r2) s op a b c = (-1 : Int32) := by
  simp only [own_lk, upd, if_true]
  by_cases h1 : op2 = op
  · by_cases h2 : a2 = a
    · by_cases h3 : b2 = b
      · by_cases h4 : c2 = c
        · exact absurd ⟨h1, h2, h3, h4⟩ hne
        · rw [if_pos h1, if_pos h2, if_pos h3, if_neg h4]
      · rw [if_pos h1, if_pos h2, if_neg h3]
    · rw [if_pos h1, if_neg h2]
  · rw [if_neg h1]
theorem own_far (f1 f2 f3 f4 f5 : Nat → Int32) {s t : Nat} (hs : ¬ s = t) {op a b c op2 a2 b2 c2 r2 : Int32} : own_lk (upd f1 t op2) (upd f2 t a2) (upd f3 t b2) (upd f4 t c2) (upd f5 t r2) s op a b c = own_lk f1 f2 f3 f4 f5 s op a b c := by
  simp only [own_lk, upd, if_neg hs]
theorem own_size (x : Int32) : ∃ n : Nat, n ≤ 8 ∧ ((1 : Int32) <<< ((x &&& (3 : Int32)) &&& 31)).toNatClampNeg = n ∧ ¬ ((1 : Int32) <<< ((x &&& (3 : Int32)) &&& 31)) < 0 ∧ (∀ op a b c : Int32, ¬ own_slot (((1 : Int32) <<< ((x &&& (3 : Int32)) &&& 31)) - (1 : Int32)) op a b c < 0 ∧ (own_slot (((1 : Int32) <<< ((x &&& (3 : Int32)) &&& 31)) - (1 : Int32)) op a b c).toNatClampNeg < n) ∧ (((1 : Int32) <<< ((x &&& (3 : Int32)) &&& 31)) = (1 : Int32) → n = 1) := by
  have h := c_mask x 3 2 (by decide) (by decide)
  have h4 : (x &&& 3) = 0 ∨ (x &&& 3) = 1 ∨ (x &&& 3) = 2 ∨ (x &&& 3) = 3 := by
    simp only [← Int32.toInt_inj, h, show (0 : Int32).toInt = 0 from rfl, show (1 : Int32).toInt = 1 from rfl, show (2 : Int32).toInt = 2 from rfl, show (3 : Int32).toInt = 3 from rfl]
    omega
  have key : ∀ (mk : Int32) (k : Nat), k ≤ 3 → mk.toBitVec.toNat = 2 ^ k - 1 → ∀ op a b c : Int32, ¬ own_slot mk op a b c < 0 ∧ (own_slot mk op a b c).toNatClampNeg < 2 ^ k := by
    intro mk k hk hm op a b c
    have q := c_mask ((own_h op a b c) ^^^ (XT.ushr (own_h op a b c) (16 : Int32))) mk k (by omega) hm
    have p : (0 : Int) < ((2 ^ k : Nat) : Int) := by have := Nat.two_pow_pos k; omega
    rw [Int32.lt_iff_toInt_lt, show (0 : Int32).toInt = 0 from rfl, Int32.toNatClampNeg]
    show ¬ ((_ &&& mk).toInt < 0) ∧ (_ &&& mk).toInt.toNat < _
    rw [q]
    have e1 := Int.emod_nonneg ((own_h op a b c) ^^^ (XT.ushr (own_h op a b c) (16 : Int32))).toInt (Int.ne_of_gt p)
    have e2 := Int.emod_lt_of_pos ((own_h op a b c) ^^^ (XT.ushr (own_h op a b c) (16 : Int32))).toInt p
    omega
  rcases h4 with q | q | q | q <;> rw [q]
  · exact ⟨1, by decide, by decide, by decide, key _ 0 (by decide) (by decide), fun _ => rfl⟩
  · exact ⟨2, by decide, by decide, by decide, key _ 1 (by decide) (by decide), fun z => absurd z (by decide)⟩
  · exact ⟨4, by decide, by decide, by decide, key _ 2 (by decide) (by decide), fun z => absurd z (by decide)⟩
  · exact ⟨8, by decide, by decide, by decide, key _ 3 (by decide) (by decide), fun z => absurd z (by decide)⟩
theorem d0_0 : decode jdk_65_method_103_code 0 = .ok (.iconst 0, 1) := by decide +kernel
theorem d0_1 : decode jdk_65_method_103_code 1 = .ok (.istore_n 2, 1) := by decide +kernel
theorem d0_2 : decode jdk_65_method_103_code 2 = .ok (.aload_n 0, 1) := by decide +kernel
theorem d0_3 : decode jdk_65_method_103_code 3 = .ok (.arraylength, 1) := by decide +kernel
theorem d0_4 : decode jdk_65_method_103_code 4 = .ok (.istore_n 3, 1) := by decide +kernel
theorem d0_5 : decode jdk_65_method_103_code 5 = .ok (.iload_n 2, 1) := by decide +kernel
theorem d0_6 : decode jdk_65_method_103_code 6 = .ok (.iload_n 3, 1) := by decide +kernel
theorem d0_7 : decode jdk_65_method_103_code 7 = .ok (.if_icmp .ge 13, 3) := by decide +kernel
theorem d0_10 : decode jdk_65_method_103_code 10 = .ok (.aload_n 0, 1) := by decide +kernel
theorem d0_11 : decode jdk_65_method_103_code 11 = .ok (.iload_n 2, 1) := by decide +kernel
theorem d0_12 : decode jdk_65_method_103_code 12 = .ok (.iload_n 1, 1) := by decide +kernel
theorem d0_13 : decode jdk_65_method_103_code 13 = .ok (.iastore, 1) := by decide +kernel
theorem d0_14 : decode jdk_65_method_103_code 14 = .ok (.iinc 2 1, 3) := by decide +kernel
theorem d0_17 : decode jdk_65_method_103_code 17 = .ok (.goto (-12), 3) := by decide +kernel
theorem d0_20 : decode jdk_65_method_103_code 20 = .ok (.return_, 1) := by decide +kernel
theorem own_pn0 : plainFor (⟨"java/util/Arrays", "fill", "([II)V"⟩ : MethodName) = true := plainFor_of_name (by first | (simp [plainName, overriddenIn]; done) | decide +kernel)
theorem own_ef0 (r0 : Addr) (p1 : Int32) (m : MethodId) : entryFrame m #[(.ref r0), (.int p1)] 4 = mkF m 0 #[.val (.ref r0), .val (.int p1), .unset, .unset] [] := by first | (simp [entryFrame, mkF, argsToLocals, Value.category]; done) | rfl
theorem own_pd0 : parseMethodDescriptor "([II)V" = some ⟨[(.array .int), .int], none⟩ := by decide +kernel
set_option maxRecDepth 65536 in
set_option maxHeartbeats 40000000 in
theorem own_rm0 (l : Launch) (Z : State) (a0 : Array Value) (hw : ∀ d ∈ tables_1, d.before a0 Z = true) (r0 : Addr) (p1 : Int32) (h0 : Heap) (n0 : Nat) (Z0 : n0 ≤ h0.size) (nn : Nat) (ff : Nat → Int32) (hn : nn ≤ 8) (F0 : IA Z h0 r0 .int nn ff) (g0 : n0 ≤ r0) :
    Met l Z (⟨"java/util/Arrays", "fill", "([II)V"⟩ : MethodName) jdk_65_method_103_code 4 none [] ({ frames := 0, cells := 0, slots := 0, locals := 0 } : Room) #[(.ref r0), (.int p1)] h0 (fun v h L => v = none ∧ Fr n0 L ∧ Keep h0 h [r0] ∧ IA Z h r0 .int nn (fun _ => p1)) := by
  refine met_of (Ls := #[.val (.ref r0), .val (.int p1), .unset, .unset]) own_pn0 (own_ef0 r0 p1) ?_
  intro p e s m below meth c s₁ hx hby hml hown hnm hret hlk hZ X0 e0
  have N0 := Fr.nil n0
  have loop : ∀ (k i : Nat) (T : State) (locs : List Loc) (h : Heap) (f : Nat → Int32), i + k = nn → Stand p l e ({ frames := 0, cells := 0, slots := 0, locals := 0 } : Room) s m #[(.ref r0), (.int p1)] below meth c T locs 0 0 → T.heap = h → Fr n0 locs → Keep h0 h [r0] → IA Z h r0 .int nn f → (∀ j, j < i → f j = p1) → n0 ≤ h.size → Go p e below s ({ frames := 0, cells := 0, slots := 0, locals := 0 } : Room).cells ({ frames := 0, cells := 0, slots := 0, locals := 0 } : Room).slots (fun v h L => v = none ∧ Fr n0 L ∧ Keep h0 h [r0] ∧ IA Z h r0 .int nn (fun _ => p1)) T (mkF m 5 #[.val (.ref r0), .val (.int p1), .val (.int (Int32.ofNat i)), .val (.int (Nat.toInt32 nn))] []) := by
    intro k
    induction k with
    | zero =>
      intro i T locs h f hik X eT N K F hf Zs
      refine gIloadN X hx (hb hby d0_5) rfl ?_
      refine gIloadN X hx (hb hby d0_6) rfl ?_
      refine gIcmp X hx 20 (hb hby d0_7) (by decide) (by decide) (fun _ => ?_) (fun q => absurd (o_geF q) (fun q => absurd ((own_lt hn (by omega)).mp q) (by omega)))
      show Go _ _ _ _ _ _ _ T (mkF m 20 #[.val (.ref r0), .val (.int p1), .val (.int (Int32.ofNat i)), .val (.int (Nat.toInt32 nn))] [])
      exact gRetV X hx hlk hret (hb hby d0_20) (by decide) (by decide) ⟨rfl, N, by rw [eT]; exact K, by rw [eT]; exact F.congr fun j hj => hf j (by omega)⟩
    | succ k ih =>
      intro i T locs h f hik X eT N K F hf Zs
      refine gIloadN X hx (hb hby d0_5) rfl ?_
      refine gIloadN X hx (hb hby d0_6) rfl ?_
      refine gIcmp X hx 20 (hb hby d0_7) (by decide) (by decide) (fun q => absurd ((own_lt hn (by omega)).mpr (by omega)) (o_geT q)) (fun _ => ?_)
      show Go _ _ _ _ _ _ _ T (mkF m 10 #[.val (.ref r0), .val (.int p1), .val (.int (Int32.ofNat i)), .val (.int (Nat.toInt32 nn))] [])
      refine gAloadN X hx (hb hby d0_10) rfl rfl ?_
      refine gIloadN X hx (hb hby d0_11) rfl ?_
      refine gIloadN X hx (hb hby d0_12) rfl ?_
      refine gIastore X hx hZ eT F i (own_n32 (by omega)) ⟨own_nn (by omega), by omega⟩ (hb hby d0_13) ?_
      intro T1 h1 X1 e1 W1 F__1
      have Z_1 := Nat.le_trans Zs (Nat.le_of_eq W1.size.symm)
      have K_1 : Keep h0 h1 [r0] := K.wr W1 (Or.inl (List.mem_of_getElem? (i := 0) rfl))
      have N_1 := Fr.snoc X1 N g0
      show Go _ _ _ _ _ _ _ T1 (mkF m 14 #[.val (.ref r0), .val (.int p1), .val (.int (Int32.ofNat i)), .val (.int (Nat.toInt32 nn))] [])
      refine gIinc X1 hx (1 : Int32) #[.val (.ref r0), .val (.int p1), .val (.int ((Int32.ofNat i) + (1 : Int32))), .val (.int (Nat.toInt32 nn))] (hb hby d0_14) rfl rfl rfl ?_
      refine gGoto X1 hx 5 (hb hby d0_17) (by decide) (by decide) ?_
      show Go _ _ _ _ _ _ _ T1 (mkF m 5 #[.val (.ref r0), .val (.int p1), .val (.int ((Int32.ofNat i) + (1 : Int32))), .val (.int (Nat.toInt32 nn))] [])
      rw [own_one i]
      exact ih (i + 1) T1 _ _ _ (by omega) X1 e1 N_1 K_1 F__1 (own_upd hf) Z_1
  refine gIconst X0 hx (0 : Int32) (hb hby d0_0) rfl ?_
  refine gIstoreN X0 hx #[.val (.ref r0), .val (.int p1), .val (.int (0 : Int32)), .unset] (hb hby d0_1) rfl ?_
  refine gAloadN X0 hx (hb hby d0_2) rfl rfl ?_
  refine gLength X0 hx hZ e0 F0 (hb hby d0_3) ?_
  show Go _ _ _ _ _ _ _ s₁ (mkF m 4 #[.val (.ref r0), .val (.int p1), .val (.int (0 : Int32)), .unset] [(.int (Nat.toInt32 nn))])
  refine gIstoreN X0 hx #[.val (.ref r0), .val (.int p1), .val (.int (0 : Int32)), .val (.int (Nat.toInt32 nn))] (hb hby d0_4) rfl ?_
  show Go _ _ _ _ _ _ _ s₁ (mkF m 5 #[.val (.ref r0), .val (.int p1), .val (.int (Int32.ofNat 0)), .val (.int (Nat.toInt32 nn))] [])
  exact loop nn 0 s₁ [] _ _ (by omega) X0 e0 N0 (Keep.refl h0 [r0]) F0 (fun j hj => absurd hj (Nat.not_lt_zero _)) Z0
theorem d1_0 : decode prog_7_method_4_code 0 = .ok (.aload_n 0, 1) := by decide +kernel
theorem d1_1 : decode prog_7_method_4_code 1 = .ok (.getfield 13, 3) := by decide +kernel
theorem d1_4 : decode prog_7_method_4_code 4 = .ok (.iconst (-1), 1) := by decide +kernel
theorem d1_5 : decode prog_7_method_4_code 5 = .ok (.invokestatic 36, 3) := by decide +kernel
theorem d1_8 : decode prog_7_method_4_code 8 = .ok (.return_, 1) := by decide +kernel
theorem own_pn1 : plainFor (⟨"com/example/wee_check/weecheck/bdd/OperationCache", "clear", "()V"⟩ : MethodName) = true := plainFor_of_name (by first | (simp [plainName, overriddenIn]; done) | decide +kernel)
theorem own_ef1 (r0 : Addr) (m : MethodId) : entryFrame m #[(.ref r0)] 1 = mkF m 0 #[.val (.ref r0)] [] := by first | (simp [entryFrame, mkF, argsToLocals, Value.category]; done) | rfl
theorem own_pd1 : parseMethodDescriptor "()V" = some ⟨[], none⟩ := by decide +kernel
set_option maxRecDepth 65536 in
set_option maxHeartbeats 40000000 in
theorem own_rm1 (l : Launch) (Z : State) (a0 : Array Value) (hw : ∀ d ∈ tables_1, d.before a0 Z = true) (r0 : Addr) (h0 : Heap) (n0 : Nat) (Z0 : n0 ≤ h0.size) (x1 : Addr) (nn : Nat) (ff : Nat → Int32) (hn : nn ≤ 8) (F0 : Fld Z h0 r0 "com/example/wee_check/weecheck/bdd/OperationCache" "operations" "[I" (.ref x1)) (V0 : IA Z h0 x1 .int nn ff) (g0 : n0 ≤ x1) (hne : r0 ≠ x1) :
    Met l Z (⟨"com/example/wee_check/weecheck/bdd/OperationCache", "clear", "()V"⟩ : MethodName) prog_7_method_4_code 1 none [] ({ frames := 1, cells := 0, slots := 0, locals := 15 } : Room) #[(.ref r0)] h0 (fun v h L => v = none ∧ Fr n0 L ∧ Keep h0 h [x1] ∧ IA Z h x1 .int nn (fun _ => (-1 : Int32))) := by
  refine met_of (Ls := #[.val (.ref r0)]) own_pn1 (own_ef1 r0) ?_
  intro p e s m below meth c s₁ hx hby hml hown hnm hret hlk hZ X0 e0
  have N0 := Fr.nil n0
  refine gAloadN X0 hx (hb hby d1_0) rfl rfl ?_
  refine gGetF X0 hx hZ hown (tw hw 15 rfl) e0 F0 (hb hby d1_1) ?_
  intro T1 X1 e1
  show Go _ _ _ _ _ _ _ T1 (mkF m 4 #[.val (.ref r0)] [(.ref x1)])
  refine gIconst X1 hx (-1 : Int32) (hb hby d1_4) rfl ?_
  refine gStatic X1 hx hZ (y := (⟨"java/util/Arrays", "fill", "([II)V"⟩ : MethodName)) hown (by decide) (tw hw 32 rfl) (tw hw 33 rfl) (tw hw 34 rfl) (tw hw 35 rfl) (own_rm0 l Z a0 hw x1 (-1 : Int32) h0 n0 Z0 nn ff hn V0 g0) e1 (by rw [hml]; rfl) (argsL := [(.ref x1), (.int (-1 : Int32))]) (rest := []) (W := 0) (lenOf own_pd0 rfl) rfl (Nat.le_of_eq rfl) (by decide) (by decide) (by decide) (by decide) (hb hby d1_5) ?_
  rintro _ T2 L2 X2 ⟨rfl, Nq2, Kq2, Vq2⟩
  have N_2 := Fr.app N0 Nq2
  have F0__2 := F0.keep Kq2 (ninS hne nin0)
  have Z_2 := Nat.le_trans Z0 Kq2.1
  have K_2 : Keep h0 T2.heap [x1] := (Keep.refl h0 [x1]).trans Kq2 (allS (Or.inl (List.mem_of_getElem? (i := 0) rfl)) all0)
  show Go _ _ _ _ _ _ _ T2 (mkF m 8 #[.val (.ref r0)] [])
  exact gRetV X2 hx hlk hret (hb hby d1_8) (by decide) (by decide) ⟨rfl, N_2, K_2, Vq2⟩
theorem d2_0 : decode prog_7_method_2_code 0 = .ok (.aload_n 0, 1) := by decide +kernel
theorem d2_1 : decode prog_7_method_2_code 1 = .ok (.iload_n 1, 1) := by decide +kernel
theorem d2_2 : decode prog_7_method_2_code 2 = .ok (.newarray .int, 2) := by decide +kernel
theorem d2_4 : decode prog_7_method_2_code 4 = .ok (.putfield 13, 3) := by decide +kernel
theorem d2_7 : decode prog_7_method_2_code 7 = .ok (.aload_n 0, 1) := by decide +kernel
theorem d2_8 : decode prog_7_method_2_code 8 = .ok (.iload_n 1, 1) := by decide +kernel
theorem d2_9 : decode prog_7_method_2_code 9 = .ok (.newarray .int, 2) := by decide +kernel
theorem d2_11 : decode prog_7_method_2_code 11 = .ok (.putfield 17, 3) := by decide +kernel
theorem d2_14 : decode prog_7_method_2_code 14 = .ok (.aload_n 0, 1) := by decide +kernel
theorem d2_15 : decode prog_7_method_2_code 15 = .ok (.iload_n 1, 1) := by decide +kernel
theorem d2_16 : decode prog_7_method_2_code 16 = .ok (.newarray .int, 2) := by decide +kernel
theorem d2_18 : decode prog_7_method_2_code 18 = .ok (.putfield 20, 3) := by decide +kernel
theorem d2_21 : decode prog_7_method_2_code 21 = .ok (.aload_n 0, 1) := by decide +kernel
theorem d2_22 : decode prog_7_method_2_code 22 = .ok (.iload_n 1, 1) := by decide +kernel
theorem d2_23 : decode prog_7_method_2_code 23 = .ok (.newarray .int, 2) := by decide +kernel
theorem d2_25 : decode prog_7_method_2_code 25 = .ok (.putfield 23, 3) := by decide +kernel
theorem d2_28 : decode prog_7_method_2_code 28 = .ok (.aload_n 0, 1) := by decide +kernel
theorem d2_29 : decode prog_7_method_2_code 29 = .ok (.iload_n 1, 1) := by decide +kernel
theorem d2_30 : decode prog_7_method_2_code 30 = .ok (.newarray .int, 2) := by decide +kernel
theorem d2_32 : decode prog_7_method_2_code 32 = .ok (.putfield 26, 3) := by decide +kernel
theorem d2_35 : decode prog_7_method_2_code 35 = .ok (.aload_n 0, 1) := by decide +kernel
theorem d2_36 : decode prog_7_method_2_code 36 = .ok (.iload_n 1, 1) := by decide +kernel
theorem d2_37 : decode prog_7_method_2_code 37 = .ok (.iconst 1, 1) := by decide +kernel
theorem d2_38 : decode prog_7_method_2_code 38 = .ok (.isub, 1) := by decide +kernel
theorem d2_39 : decode prog_7_method_2_code 39 = .ok (.putfield 29, 3) := by decide +kernel
theorem d2_42 : decode prog_7_method_2_code 42 = .ok (.aload_n 0, 1) := by decide +kernel
theorem d2_43 : decode prog_7_method_2_code 43 = .ok (.invokevirtual 33, 3) := by decide +kernel
theorem d2_46 : decode prog_7_method_2_code 46 = .ok (.return_, 1) := by decide +kernel
theorem own_pn2 : plainFor (⟨"com/example/wee_check/weecheck/bdd/OperationCache", "resize", "(I)V"⟩ : MethodName) = true := plainFor_of_name (by first | (simp [plainName, overriddenIn]; done) | decide +kernel)
theorem own_ef2 (r0 : Addr) (p1 : Int32) (m : MethodId) : entryFrame m #[(.ref r0), (.int p1)] 2 = mkF m 0 #[.val (.ref r0), .val (.int p1)] [] := by first | (simp [entryFrame, mkF, argsToLocals, Value.category]; done) | rfl
theorem own_pd2 : parseMethodDescriptor "(I)V" = some ⟨[.int], none⟩ := by decide +kernel
set_option maxRecDepth 65536 in
set_option maxHeartbeats 40000000 in
theorem own_rm2 (l : Launch) (Z : State) (a0 : Array Value) (hw : ∀ d ∈ tables_1, d.before a0 Z = true) (r0 : Addr) (p1 : Int32) (h0 : Heap) (n0 : Nat) (Z0 : n0 ≤ h0.size) (nn : Nat) (hn : nn ≤ 8) (hnc : p1.toNatClampNeg = nn) (hneg : ¬ p1 < 0) (E0 : Exa Z h0 r0 "com/example/wee_check/weecheck/bdd/OperationCache") (F0 : Fld Z h0 r0 "com/example/wee_check/weecheck/bdd/OperationCache" "operations" "[I" .null) (F1 : Fld Z h0 r0 "com/example/wee_check/weecheck/bdd/OperationCache" "firsts" "[I" .null) (F2 : Fld Z h0 r0 "com/example/wee_check/weecheck/bdd/OperationCache" "seconds" "[I" .null) (F3 : Fld Z h0 r0 "com/example/wee_check/weecheck/bdd/OperationCache" "thirds" "[I" .null) (F4 : Fld Z h0 r0 "com/example/wee_check/weecheck/bdd/OperationCache" "results" "[I" .null) (F5 : Fld Z h0 r0 "com/example/wee_check/weecheck/bdd/OperationCache" "mask" "I" (.int (0 : Int32))) (g0 : n0 ≤ r0) :
    Met l Z (⟨"com/example/wee_check/weecheck/bdd/OperationCache", "resize", "(I)V"⟩ : MethodName) prog_7_method_2_code 2 none [] ({ frames := 2, cells := 5, slots := 40, locals := 27 } : Room) #[(.ref r0), (.int p1)] h0 (fun v h L => v = none ∧ Fr n0 L ∧ Keep h0 h [r0] ∧ Exa Z h r0 "com/example/wee_check/weecheck/bdd/OperationCache" ∧ ∃ x1 x2 x3 x4 x5 : Addr, (r0 < x1 ∧ x1 < x2 ∧ x2 < x3 ∧ x3 < x4 ∧ x4 < x5) ∧ Fld Z h r0 "com/example/wee_check/weecheck/bdd/OperationCache" "operations" "[I" (.ref x1) ∧ Fld Z h r0 "com/example/wee_check/weecheck/bdd/OperationCache" "firsts" "[I" (.ref x2) ∧ Fld Z h r0 "com/example/wee_check/weecheck/bdd/OperationCache" "seconds" "[I" (.ref x3) ∧ Fld Z h r0 "com/example/wee_check/weecheck/bdd/OperationCache" "thirds" "[I" (.ref x4) ∧ Fld Z h r0 "com/example/wee_check/weecheck/bdd/OperationCache" "results" "[I" (.ref x5) ∧ Fld Z h r0 "com/example/wee_check/weecheck/bdd/OperationCache" "mask" "I" (.int (p1 - (1 : Int32))) ∧ IA Z h x1 .int nn (fun _ => (-1 : Int32)) ∧ IA Z h x2 .int nn (fun _ => 0) ∧ IA Z h x3 .int nn (fun _ => 0) ∧ IA Z h x4 .int nn (fun _ => 0) ∧ IA Z h x5 .int nn (fun _ => 0)) := by
  refine met_of (Ls := #[.val (.ref r0), .val (.int p1)]) own_pn2 (own_ef2 r0 p1) ?_
  intro p e s m below meth c s₁ hx hby hml hown hnm hret hlk hZ X0 e0
  have N0 := Fr.nil n0
  refine gAloadN X0 hx (hb hby d2_0) rfl rfl ?_
  refine gIloadN X0 hx (hb hby d2_1) rfl ?_
  refine gNewArr X0 hx hZ (tw hw 14 rfl) e0 (hb hby d2_2) hneg (cap := 8) (by rw [hnc]; exact hn) (by decide) (by decide) (by decide) ?_
  intro T1 h1 b1 cA1 X1 e1 E1 g1 A1
  have lt_r0_b1 : r0 < b1 := by rw [g1]; exact E0.lt
  have g_b1 : n0 ≤ b1 := by rw [g1]; exact Z0
  have sz_b1 : h0.size ≤ b1 := by rw [g1]; exact (Keep.refl h0 [r0]).1
  have E0__1 := E0.ext E1
  have F0__1 := F0.ext E1
  have F1__1 := F1.ext E1
  have F2__1 := F2.ext E1
  have F3__1 := F3.ext E1
  have F4__1 := F4.ext E1
  have F5__1 := F5.ext E1
  have Z_1 := Nat.le_trans Z0 E1.1
  have K_1 : Keep h0 h1 [r0] := (Keep.refl h0 [r0]).ext E1
  have V1 : IA Z h1 b1 .int nn (fun _ => 0) := (IA.new rfl A1).num hnc
  show Go _ _ _ _ _ _ _ T1 (mkF m 4 #[.val (.ref r0), .val (.int p1)] [(.ref b1), (.ref r0)])
  refine gPutF X1 hx hZ hown (tw hw 15 rfl) e1 F0__1 E0__1 (Or.inl (tw hw 16 rfl)) (tw hw 1 rfl) (ty := (.array .int)) (by decide) rfl rfl (hb hby d2_4) ?_
  intro T2 h2 X2 e2 W2
  have F0__2 := F0__1.same W2
  have E0__2 := E0__1.wr W2
  have F1__2 := F1__1.other W2 (Or.inr (slot_ne (Or.inl (tw hw 18 rfl)) (Or.inl (tw hw 16 rfl)) (by decide) (t := (.array .int)) (t' := (.array .int)) (by decide) (by decide)))
  have F2__2 := F2__1.other W2 (Or.inr (slot_ne (Or.inl (tw hw 20 rfl)) (Or.inl (tw hw 16 rfl)) (by decide) (t := (.array .int)) (t' := (.array .int)) (by decide) (by decide)))
  have F3__2 := F3__1.other W2 (Or.inr (slot_ne (Or.inl (tw hw 22 rfl)) (Or.inl (tw hw 16 rfl)) (by decide) (t := (.array .int)) (t' := (.array .int)) (by decide) (by decide)))
  have F4__2 := F4__1.other W2 (Or.inr (slot_ne (Or.inl (tw hw 24 rfl)) (Or.inl (tw hw 16 rfl)) (by decide) (t := (.array .int)) (t' := (.array .int)) (by decide) (by decide)))
  have F5__2 := F5__1.other W2 (Or.inr (slot_ne (Or.inl (tw hw 26 rfl)) (Or.inl (tw hw 16 rfl)) (by decide) (t := .int) (t' := (.array .int)) (by decide) (by decide)))
  have V1__2 := V1.other W2 (Ne.symm (Nat.ne_of_lt lt_r0_b1))
  have Z_2 := Nat.le_trans Z_1 (Nat.le_of_eq W2.size.symm)
  have K_2 : Keep h0 h2 [r0] := K_1.wr W2 (Or.inl (List.mem_of_getElem? (i := 0) rfl))
  have N_2 := Fr.snoc X2 N0 g0
  show Go _ _ _ _ _ _ _ T2 (mkF m 7 #[.val (.ref r0), .val (.int p1)] [])
  refine gAloadN X2 hx (hb hby d2_7) rfl rfl ?_
  refine gIloadN X2 hx (hb hby d2_8) rfl ?_
  refine gNewArr X2 hx hZ (tw hw 14 rfl) e2 (hb hby d2_9) hneg (cap := 8) (by rw [hnc]; exact hn) (by decide) (by decide) (by decide) ?_
  intro T3 h3 b3 cA3 X3 e3 E3 g3 A3
  have lt_r0_b3 : r0 < b3 := by rw [g3]; exact E0__2.lt
  have lt_b1_b3 : b1 < b3 := by rw [g3]; exact V1__2.lt
  have g_b3 : n0 ≤ b3 := by rw [g3]; exact Z_2
  have sz_b3 : h0.size ≤ b3 := by rw [g3]; exact K_2.1
  have E0__3 := E0__2.ext E3
  have F0__3 := F0__2.ext E3
  have F1__3 := F1__2.ext E3
  have F2__3 := F2__2.ext E3
  have F3__3 := F3__2.ext E3
  have F4__3 := F4__2.ext E3
  have F5__3 := F5__2.ext E3
  have V1__3 := V1__2.ext E3
  have Z_3 := Nat.le_trans Z_2 E3.1
  have K_3 : Keep h0 h3 [r0] := K_2.ext E3
  have V3 : IA Z h3 b3 .int nn (fun _ => 0) := (IA.new rfl A3).num hnc
  show Go _ _ _ _ _ _ _ T3 (mkF m 11 #[.val (.ref r0), .val (.int p1)] [(.ref b3), (.ref r0)])
  refine gPutF X3 hx hZ hown (tw hw 17 rfl) e3 F1__3 E0__3 (Or.inl (tw hw 18 rfl)) (tw hw 1 rfl) (ty := (.array .int)) (by decide) rfl rfl (hb hby d2_11) ?_
  intro T4 h4 X4 e4 W4
  have F1__4 := F1__3.same W4
  have E0__4 := E0__3.wr W4
  have F0__4 := F0__3.other W4 (Or.inr (slot_ne (Or.inl (tw hw 16 rfl)) (Or.inl (tw hw 18 rfl)) (by decide) (t := (.array .int)) (t' := (.array .int)) (by decide) (by decide)))
  have F2__4 := F2__3.other W4 (Or.inr (slot_ne (Or.inl (tw hw 20 rfl)) (Or.inl (tw hw 18 rfl)) (by decide) (t := (.array .int)) (t' := (.array .int)) (by decide) (by decide)))
  have F3__4 := F3__3.other W4 (Or.inr (slot_ne (Or.inl (tw hw 22 rfl)) (Or.inl (tw hw 18 rfl)) (by decide) (t := (.array .int)) (t' := (.array .int)) (by decide) (by decide)))
  have F4__4 := F4__3.other W4 (Or.inr (slot_ne (Or.inl (tw hw 24 rfl)) (Or.inl (tw hw 18 rfl)) (by decide) (t := (.array .int)) (t' := (.array .int)) (by decide) (by decide)))
  have F5__4 := F5__3.other W4 (Or.inr (slot_ne (Or.inl (tw hw 26 rfl)) (Or.inl (tw hw 18 rfl)) (by decide) (t := .int) (t' := (.array .int)) (by decide) (by decide)))
  have V1__4 := V1__3.other W4 (Ne.symm (Nat.ne_of_lt lt_r0_b1))
  have V3__4 := V3.other W4 (Ne.symm (Nat.ne_of_lt lt_r0_b3))
  have Z_4 := Nat.le_trans Z_3 (Nat.le_of_eq W4.size.symm)
  have K_4 : Keep h0 h4 [r0] := K_3.wr W4 (Or.inl (List.mem_of_getElem? (i := 0) rfl))
  have N_4 := Fr.snoc X4 N_2 g0
  show Go _ _ _ _ _ _ _ T4 (mkF m 14 #[.val (.ref r0), .val (.int p1)] [])
  refine gAloadN X4 hx (hb hby d2_14) rfl rfl ?_
  refine gIloadN X4 hx (hb hby d2_15) rfl ?_
  refine gNewArr X4 hx hZ (tw hw 14 rfl) e4 (hb hby d2_16) hneg (cap := 8) (by rw [hnc]; exact hn) (by decide) (by decide) (by decide) ?_
  intro T5 h5 b5 cA5 X5 e5 E5 g5 A5
  have lt_r0_b5 : r0 < b5 := by rw [g5]; exact E0__4.lt
  have lt_b1_b5 : b1 < b5 := by rw [g5]; exact V1__4.lt
  have lt_b3_b5 : b3 < b5 := by rw [g5]; exact V3__4.lt
  have g_b5 : n0 ≤ b5 := by rw [g5]; exact Z_4
  have sz_b5 : h0.size ≤ b5 := by rw [g5]; exact K_4.1
  have E0__5 := E0__4.ext E5
  have F0__5 := F0__4.ext E5
  have F1__5 := F1__4.ext E5
  have F2__5 := F2__4.ext E5
  have F3__5 := F3__4.ext E5
  have F4__5 := F4__4.ext E5
  have F5__5 := F5__4.ext E5
  have V1__5 := V1__4.ext E5
  have V3__5 := V3__4.ext E5
  have Z_5 := Nat.le_trans Z_4 E5.1
  have K_5 : Keep h0 h5 [r0] := K_4.ext E5
  have V5 : IA Z h5 b5 .int nn (fun _ => 0) := (IA.new rfl A5).num hnc
  show Go _ _ _ _ _ _ _ T5 (mkF m 18 #[.val (.ref r0), .val (.int p1)] [(.ref b5), (.ref r0)])
  refine gPutF X5 hx hZ hown (tw hw 19 rfl) e5 F2__5 E0__5 (Or.inl (tw hw 20 rfl)) (tw hw 1 rfl) (ty := (.array .int)) (by decide) rfl rfl (hb hby d2_18) ?_
  intro T6 h6 X6 e6 W6
  have F2__6 := F2__5.same W6
  have E0__6 := E0__5.wr W6
  have F0__6 := F0__5.other W6 (Or.inr (slot_ne (Or.inl (tw hw 16 rfl)) (Or.inl (tw hw 20 rfl)) (by decide) (t := (.array .int)) (t' := (.array .int)) (by decide) (by decide)))
  have F1__6 := F1__5.other W6 (Or.inr (slot_ne (Or.inl (tw hw 18 rfl)) (Or.inl (tw hw 20 rfl)) (by decide) (t := (.array .int)) (t' := (.array .int)) (by decide) (by decide)))
  have F3__6 := F3__5.other W6 (Or.inr (slot_ne (Or.inl (tw hw 22 rfl)) (Or.inl (tw hw 20 rfl)) (by decide) (t := (.array .int)) (t' := (.array .int)) (by decide) (by decide)))
  have F4__6 := F4__5.other W6 (Or.inr (slot_ne (Or.inl (tw hw 24 rfl)) (Or.inl (tw hw 20 rfl)) (by decide) (t := (.array .int)) (t' := (.array .int)) (by decide) (by decide)))
  have F5__6 := F5__5.other W6 (Or.inr (slot_ne (Or.inl (tw hw 26 rfl)) (Or.inl (tw hw 20 rfl)) (by decide) (t := .int) (t' := (.array .int)) (by decide) (by decide)))
  have V1__6 := V1__5.other W6 (Ne.symm (Nat.ne_of_lt lt_r0_b1))
  have V3__6 := V3__5.other W6 (Ne.symm (Nat.ne_of_lt lt_r0_b3))
  have V5__6 := V5.other W6 (Ne.symm (Nat.ne_of_lt lt_r0_b5))
  have Z_6 := Nat.le_trans Z_5 (Nat.le_of_eq W6.size.symm)
  have K_6 : Keep h0 h6 [r0] := K_5.wr W6 (Or.inl (List.mem_of_getElem? (i := 0) rfl))
  have N_6 := Fr.snoc X6 N_4 g0
  show Go _ _ _ _ _ _ _ T6 (mkF m 21 #[.val (.ref r0), .val (.int p1)] [])
  refine gAloadN X6 hx (hb hby d2_21) rfl rfl ?_
  refine gIloadN X6 hx (hb hby d2_22) rfl ?_
  refine gNewArr X6 hx hZ (tw hw 14 rfl) e6 (hb hby d2_23) hneg (cap := 8) (by rw [hnc]; exact hn) (by decide) (by decide) (by decide) ?_
  intro T7 h7 b7 cA7 X7 e7 E7 g7 A7
  have lt_r0_b7 : r0 < b7 := by rw [g7]; exact E0__6.lt
  have lt_b1_b7 : b1 < b7 := by rw [g7]; exact V1__6.lt
  have lt_b3_b7 : b3 < b7 := by rw [g7]; exact V3__6.lt
  have lt_b5_b7 : b5 < b7 := by rw [g7]; exact V5__6.lt
  have g_b7 : n0 ≤ b7 := by rw [g7]; exact Z_6
  have sz_b7 : h0.size ≤ b7 := by rw [g7]; exact K_6.1
  have E0__7 := E0__6.ext E7
  have F0__7 := F0__6.ext E7
  have F1__7 := F1__6.ext E7
  have F2__7 := F2__6.ext E7
  have F3__7 := F3__6.ext E7
  have F4__7 := F4__6.ext E7
  have F5__7 := F5__6.ext E7
  have V1__7 := V1__6.ext E7
  have V3__7 := V3__6.ext E7
  have V5__7 := V5__6.ext E7
  have Z_7 := Nat.le_trans Z_6 E7.1
  have K_7 : Keep h0 h7 [r0] := K_6.ext E7
  have V7 : IA Z h7 b7 .int nn (fun _ => 0) := (IA.new rfl A7).num hnc
  show Go _ _ _ _ _ _ _ T7 (mkF m 25 #[.val (.ref r0), .val (.int p1)] [(.ref b7), (.ref r0)])
  refine gPutF X7 hx hZ hown (tw hw 21 rfl) e7 F3__7 E0__7 (Or.inl (tw hw 22 rfl)) (tw hw 1 rfl) (ty := (.array .int)) (by decide) rfl rfl (hb hby d2_25) ?_
  intro T8 h8 X8 e8 W8
  have F3__8 := F3__7.same W8
  have E0__8 := E0__7.wr W8
  have F0__8 := F0__7.other W8 (Or.inr (slot_ne (Or.inl (tw hw 16 rfl)) (Or.inl (tw hw 22 rfl)) (by decide) (t := (.array .int)) (t' := (.array .int)) (by decide) (by decide)))
  have F1__8 := F1__7.other W8 (Or.inr (slot_ne (Or.inl (tw hw 18 rfl)) (Or.inl (tw hw 22 rfl)) (by decide) (t := (.array .int)) (t' := (.array .int)) (by decide) (by decide)))
  have F2__8 := F2__7.other W8 (Or.inr (slot_ne (Or.inl (tw hw 20 rfl)) (Or.inl (tw hw 22 rfl)) (by decide) (t := (.array .int)) (t' := (.array .int)) (by decide) (by decide)))
  have F4__8 := F4__7.other W8 (Or.inr (slot_ne (Or.inl (tw hw 24 rfl)) (Or.inl (tw hw 22 rfl)) (by decide) (t := (.array .int)) (t' := (.array .int)) (by decide) (by decide)))
  have F5__8 := F5__7.other W8 (Or.inr (slot_ne (Or.inl (tw hw 26 rfl)) (Or.inl (tw hw 22 rfl)) (by decide) (t := .int) (t' := (.array .int)) (by decide) (by decide)))
  have V1__8 := V1__7.other W8 (Ne.symm (Nat.ne_of_lt lt_r0_b1))
  have V3__8 := V3__7.other W8 (Ne.symm (Nat.ne_of_lt lt_r0_b3))
  have V5__8 := V5__7.other W8 (Ne.symm (Nat.ne_of_lt lt_r0_b5))
  have V7__8 := V7.other W8 (Ne.symm (Nat.ne_of_lt lt_r0_b7))
  have Z_8 := Nat.le_trans Z_7 (Nat.le_of_eq W8.size.symm)
  have K_8 : Keep h0 h8 [r0] := K_7.wr W8 (Or.inl (List.mem_of_getElem? (i := 0) rfl))
  have N_8 := Fr.snoc X8 N_6 g0
  show Go _ _ _ _ _ _ _ T8 (mkF m 28 #[.val (.ref r0), .val (.int p1)] [])
  refine gAloadN X8 hx (hb hby d2_28) rfl rfl ?_
  refine gIloadN X8 hx (hb hby d2_29) rfl ?_
  refine gNewArr X8 hx hZ (tw hw 14 rfl) e8 (hb hby d2_30) hneg (cap := 8) (by rw [hnc]; exact hn) (by decide) (by decide) (by decide) ?_
  intro T9 h9 b9 cA9 X9 e9 E9 g9 A9
  have lt_r0_b9 : r0 < b9 := by rw [g9]; exact E0__8.lt
  have lt_b1_b9 : b1 < b9 := by rw [g9]; exact V1__8.lt
  have lt_b3_b9 : b3 < b9 := by rw [g9]; exact V3__8.lt
  have lt_b5_b9 : b5 < b9 := by rw [g9]; exact V5__8.lt
  have lt_b7_b9 : b7 < b9 := by rw [g9]; exact V7__8.lt
  have g_b9 : n0 ≤ b9 := by rw [g9]; exact Z_8
  have sz_b9 : h0.size ≤ b9 := by rw [g9]; exact K_8.1
  have E0__9 := E0__8.ext E9
  have F0__9 := F0__8.ext E9
  have F1__9 := F1__8.ext E9
  have F2__9 := F2__8.ext E9
  have F3__9 := F3__8.ext E9
  have F4__9 := F4__8.ext E9
  have F5__9 := F5__8.ext E9
  have V1__9 := V1__8.ext E9
  have V3__9 := V3__8.ext E9
  have V5__9 := V5__8.ext E9
  have V7__9 := V7__8.ext E9
  have Z_9 := Nat.le_trans Z_8 E9.1
  have K_9 : Keep h0 h9 [r0] := K_8.ext E9
  have V9 : IA Z h9 b9 .int nn (fun _ => 0) := (IA.new rfl A9).num hnc
  show Go _ _ _ _ _ _ _ T9 (mkF m 32 #[.val (.ref r0), .val (.int p1)] [(.ref b9), (.ref r0)])
  refine gPutF X9 hx hZ hown (tw hw 23 rfl) e9 F4__9 E0__9 (Or.inl (tw hw 24 rfl)) (tw hw 1 rfl) (ty := (.array .int)) (by decide) rfl rfl (hb hby d2_32) ?_
  intro T10 h10 X10 e10 W10
  have F4__10 := F4__9.same W10
  have E0__10 := E0__9.wr W10
  have F0__10 := F0__9.other W10 (Or.inr (slot_ne (Or.inl (tw hw 16 rfl)) (Or.inl (tw hw 24 rfl)) (by decide) (t := (.array .int)) (t' := (.array .int)) (by decide) (by decide)))
  have F1__10 := F1__9.other W10 (Or.inr (slot_ne (Or.inl (tw hw 18 rfl)) (Or.inl (tw hw 24 rfl)) (by decide) (t := (.array .int)) (t' := (.array .int)) (by decide) (by decide)))
  have F2__10 := F2__9.other W10 (Or.inr (slot_ne (Or.inl (tw hw 20 rfl)) (Or.inl (tw hw 24 rfl)) (by decide) (t := (.array .int)) (t' := (.array .int)) (by decide) (by decide)))
  have F3__10 := F3__9.other W10 (Or.inr (slot_ne (Or.inl (tw hw 22 rfl)) (Or.inl (tw hw 24 rfl)) (by decide) (t := (.array .int)) (t' := (.array .int)) (by decide) (by decide)))
  have F5__10 := F5__9.other W10 (Or.inr (slot_ne (Or.inl (tw hw 26 rfl)) (Or.inl (tw hw 24 rfl)) (by decide) (t := .int) (t' := (.array .int)) (by decide) (by decide)))
  have V1__10 := V1__9.other W10 (Ne.symm (Nat.ne_of_lt lt_r0_b1))
  have V3__10 := V3__9.other W10 (Ne.symm (Nat.ne_of_lt lt_r0_b3))
  have V5__10 := V5__9.other W10 (Ne.symm (Nat.ne_of_lt lt_r0_b5))
  have V7__10 := V7__9.other W10 (Ne.symm (Nat.ne_of_lt lt_r0_b7))
  have V9__10 := V9.other W10 (Ne.symm (Nat.ne_of_lt lt_r0_b9))
  have Z_10 := Nat.le_trans Z_9 (Nat.le_of_eq W10.size.symm)
  have K_10 : Keep h0 h10 [r0] := K_9.wr W10 (Or.inl (List.mem_of_getElem? (i := 0) rfl))
  have N_10 := Fr.snoc X10 N_8 g0
  show Go _ _ _ _ _ _ _ T10 (mkF m 35 #[.val (.ref r0), .val (.int p1)] [])
  refine gAloadN X10 hx (hb hby d2_35) rfl rfl ?_
  refine gIloadN X10 hx (hb hby d2_36) rfl ?_
  refine gIconst X10 hx (1 : Int32) (hb hby d2_37) rfl ?_
  refine gIsub X10 hx (hb hby d2_38) ?_
  refine gPutF X10 hx hZ hown (tw hw 25 rfl) e10 F5__10 E0__10 (Or.inl (tw hw 26 rfl)) (tw hw 1 rfl) (ty := .int) (by decide) rfl rfl (hb hby d2_39) ?_
  intro T11 h11 X11 e11 W11
  have F5__11 := F5__10.same W11
  have E0__11 := E0__10.wr W11
  have F0__11 := F0__10.other W11 (Or.inr (slot_ne (Or.inl (tw hw 16 rfl)) (Or.inl (tw hw 26 rfl)) (by decide) (t := (.array .int)) (t' := .int) (by decide) (by decide)))
  have F1__11 := F1__10.other W11 (Or.inr (slot_ne (Or.inl (tw hw 18 rfl)) (Or.inl (tw hw 26 rfl)) (by decide) (t := (.array .int)) (t' := .int) (by decide) (by decide)))
  have F2__11 := F2__10.other W11 (Or.inr (slot_ne (Or.inl (tw hw 20 rfl)) (Or.inl (tw hw 26 rfl)) (by decide) (t := (.array .int)) (t' := .int) (by decide) (by decide)))
  have F3__11 := F3__10.other W11 (Or.inr (slot_ne (Or.inl (tw hw 22 rfl)) (Or.inl (tw hw 26 rfl)) (by decide) (t := (.array .int)) (t' := .int) (by decide) (by decide)))
  have F4__11 := F4__10.other W11 (Or.inr (slot_ne (Or.inl (tw hw 24 rfl)) (Or.inl (tw hw 26 rfl)) (by decide) (t := (.array .int)) (t' := .int) (by decide) (by decide)))
  have V1__11 := V1__10.other W11 (Ne.symm (Nat.ne_of_lt lt_r0_b1))
  have V3__11 := V3__10.other W11 (Ne.symm (Nat.ne_of_lt lt_r0_b3))
  have V5__11 := V5__10.other W11 (Ne.symm (Nat.ne_of_lt lt_r0_b5))
  have V7__11 := V7__10.other W11 (Ne.symm (Nat.ne_of_lt lt_r0_b7))
  have V9__11 := V9__10.other W11 (Ne.symm (Nat.ne_of_lt lt_r0_b9))
  have Z_11 := Nat.le_trans Z_10 (Nat.le_of_eq W11.size.symm)
  have K_11 : Keep h0 h11 [r0] := K_10.wr W11 (Or.inl (List.mem_of_getElem? (i := 0) rfl))
  have N_11 := Fr.snoc X11 N_10 g0
  show Go _ _ _ _ _ _ _ T11 (mkF m 42 #[.val (.ref r0), .val (.int p1)] [])
  refine gAloadN X11 hx (hb hby d2_42) rfl rfl ?_
  refine gVirtual X11 hx hZ (y := (⟨"com/example/wee_check/weecheck/bdd/OperationCache", "clear", "()V"⟩ : MethodName)) (a := r0) hown (by decide) (tw hw 27 rfl) (tw hw 28 rfl) (tw hw 29 rfl) (tw hw 30 rfl) (tw hw 2 rfl) (tw hw 31 rfl) E0__11 (own_rm1 l Z a0 hw r0 h11 n0 Z_11 b1 nn (fun _ => 0) hn F0__11 V1__11 g_b1 (Nat.ne_of_lt lt_r0_b1)) e11 (by rw [hml]; rfl) (argsL := []) (rest := []) (W := 0) (lenOf own_pd1 rfl) rfl (Nat.le_of_eq rfl) (by decide) (by decide) (by decide) (by decide) (hb hby d2_43) ?_
  rintro _ T12 L12 X12 ⟨rfl, Nq12, Kq12, Vq12⟩
  have N_12 := Fr.app N_11 Nq12
  have E0__12 := E0__11.keep Kq12
  have F0__12 := F0__11.keep Kq12 (ninS (Nat.ne_of_lt lt_r0_b1) nin0)
  have F1__12 := F1__11.keep Kq12 (ninS (Nat.ne_of_lt lt_r0_b1) nin0)
  have F2__12 := F2__11.keep Kq12 (ninS (Nat.ne_of_lt lt_r0_b1) nin0)
  have F3__12 := F3__11.keep Kq12 (ninS (Nat.ne_of_lt lt_r0_b1) nin0)
  have F4__12 := F4__11.keep Kq12 (ninS (Nat.ne_of_lt lt_r0_b1) nin0)
  have F5__12 := F5__11.keep Kq12 (ninS (Nat.ne_of_lt lt_r0_b1) nin0)
  have V3__12 := V3__11.keep Kq12 (ninS (Ne.symm (Nat.ne_of_lt lt_b1_b3)) nin0)
  have V5__12 := V5__11.keep Kq12 (ninS (Ne.symm (Nat.ne_of_lt lt_b1_b5)) nin0)
  have V7__12 := V7__11.keep Kq12 (ninS (Ne.symm (Nat.ne_of_lt lt_b1_b7)) nin0)
  have V9__12 := V9__11.keep Kq12 (ninS (Ne.symm (Nat.ne_of_lt lt_b1_b9)) nin0)
  have Z_12 := Nat.le_trans Z_11 Kq12.1
  have K_12 : Keep h0 T12.heap [r0] := K_11.trans Kq12 (allS (Or.inr sz_b1) all0)
  show Go _ _ _ _ _ _ _ T12 (mkF m 46 #[.val (.ref r0), .val (.int p1)] [])
  exact gRetV X12 hx hlk hret (hb hby d2_46) (by decide) (by decide) ⟨rfl, N_12, K_12, E0__12, b1, b3, b5, b7, b9, ⟨lt_r0_b1, lt_b1_b3, lt_b3_b5, lt_b5_b7, lt_b7_b9⟩, F0__12, F1__12, F2__12, F3__12, F4__12, F5__12, Vq12, V3__12, V5__12, V7__12, V9__12⟩
theorem d3_0 : decode prog_7_method_1_code 0 = .ok (.aload_n 0, 1) := by decide +kernel
theorem d3_1 : decode prog_7_method_1_code 1 = .ok (.invokespecial 1, 3) := by decide +kernel
theorem d3_4 : decode prog_7_method_1_code 4 = .ok (.aload_n 0, 1) := by decide +kernel
theorem d3_5 : decode prog_7_method_1_code 5 = .ok (.iload_n 1, 1) := by decide +kernel
theorem d3_6 : decode prog_7_method_1_code 6 = .ok (.invokevirtual 7, 3) := by decide +kernel
theorem d3_9 : decode prog_7_method_1_code 9 = .ok (.return_, 1) := by decide +kernel
theorem own_pn3 : plainFor (⟨"com/example/wee_check/weecheck/bdd/OperationCache", "<init>", "(I)V"⟩ : MethodName) = true := plainFor_of_name (by first | (simp [plainName, overriddenIn]; done) | decide +kernel)
theorem own_ef3 (r0 : Addr) (p1 : Int32) (m : MethodId) : entryFrame m #[(.ref r0), (.int p1)] 2 = mkF m 0 #[.val (.ref r0), .val (.int p1)] [] := by first | (simp [entryFrame, mkF, argsToLocals, Value.category]; done) | rfl
set_option maxRecDepth 65536 in
set_option maxHeartbeats 40000000 in
theorem own_rm3 (l : Launch) (Z : State) (a0 : Array Value) (hw : ∀ d ∈ tables_1, d.before a0 Z = true) (r0 : Addr) (p1 : Int32) (h0 : Heap) (n0 : Nat) (Z0 : n0 ≤ h0.size) (nn : Nat) (hn : nn ≤ 8) (hnc : p1.toNatClampNeg = nn) (hneg : ¬ p1 < 0) (E0 : Exa Z h0 r0 "com/example/wee_check/weecheck/bdd/OperationCache") (F0 : Fld Z h0 r0 "com/example/wee_check/weecheck/bdd/OperationCache" "operations" "[I" .null) (F1 : Fld Z h0 r0 "com/example/wee_check/weecheck/bdd/OperationCache" "firsts" "[I" .null) (F2 : Fld Z h0 r0 "com/example/wee_check/weecheck/bdd/OperationCache" "seconds" "[I" .null) (F3 : Fld Z h0 r0 "com/example/wee_check/weecheck/bdd/OperationCache" "thirds" "[I" .null) (F4 : Fld Z h0 r0 "com/example/wee_check/weecheck/bdd/OperationCache" "results" "[I" .null) (F5 : Fld Z h0 r0 "com/example/wee_check/weecheck/bdd/OperationCache" "mask" "I" (.int (0 : Int32))) (g0 : n0 ≤ r0) :
    Met l Z (⟨"com/example/wee_check/weecheck/bdd/OperationCache", "<init>", "(I)V"⟩ : MethodName) prog_7_method_1_code 2 none [] ({ frames := 3, cells := 5, slots := 40, locals := 40 } : Room) #[(.ref r0), (.int p1)] h0 (fun v h L => v = none ∧ Fr n0 L ∧ Keep h0 h [r0] ∧ Exa Z h r0 "com/example/wee_check/weecheck/bdd/OperationCache" ∧ ∃ x1 x2 x3 x4 x5 : Addr, (r0 < x1 ∧ x1 < x2 ∧ x2 < x3 ∧ x3 < x4 ∧ x4 < x5) ∧ Fld Z h r0 "com/example/wee_check/weecheck/bdd/OperationCache" "operations" "[I" (.ref x1) ∧ Fld Z h r0 "com/example/wee_check/weecheck/bdd/OperationCache" "firsts" "[I" (.ref x2) ∧ Fld Z h r0 "com/example/wee_check/weecheck/bdd/OperationCache" "seconds" "[I" (.ref x3) ∧ Fld Z h r0 "com/example/wee_check/weecheck/bdd/OperationCache" "thirds" "[I" (.ref x4) ∧ Fld Z h r0 "com/example/wee_check/weecheck/bdd/OperationCache" "results" "[I" (.ref x5) ∧ Fld Z h r0 "com/example/wee_check/weecheck/bdd/OperationCache" "mask" "I" (.int (p1 - (1 : Int32))) ∧ IA Z h x1 .int nn (fun _ => (-1 : Int32)) ∧ IA Z h x2 .int nn (fun _ => 0) ∧ IA Z h x3 .int nn (fun _ => 0) ∧ IA Z h x4 .int nn (fun _ => 0) ∧ IA Z h x5 .int nn (fun _ => 0)) := by
  refine met_of (Ls := #[.val (.ref r0), .val (.int p1)]) own_pn3 (own_ef3 r0 p1) ?_
  intro p e s m below meth c s₁ hx hby hml hown hnm hret hlk hZ X0 e0
  have N0 := Fr.nil n0
  refine gAloadN X0 hx (hb hby d3_0) rfl rfl ?_
  refine gObjInit X0 hx hZ hown (tw hw 6 rfl) (tw hw 7 rfl) (tw hw 8 rfl) e0 (by rw [hml]; rfl) (hb hby d3_1) (by decide) (W := 0) (Nat.le_of_eq rfl) (by decide) ?_
  intro T1 X1 e1
  show Go _ _ _ _ _ _ _ T1 (mkF m 4 #[.val (.ref r0), .val (.int p1)] [])
  refine gAloadN X1 hx (hb hby d3_4) rfl rfl ?_
  refine gIloadN X1 hx (hb hby d3_5) rfl ?_
  refine gVirtual X1 hx hZ (y := (⟨"com/example/wee_check/weecheck/bdd/OperationCache", "resize", "(I)V"⟩ : MethodName)) (a := r0) hown (by decide) (tw hw 9 rfl) (tw hw 10 rfl) (tw hw 11 rfl) (tw hw 12 rfl) (tw hw 2 rfl) (tw hw 13 rfl) E0 (own_rm2 l Z a0 hw r0 p1 h0 n0 Z0 nn hn hnc hneg E0 F0 F1 F2 F3 F4 F5 g0) e1 (by rw [hml]; rfl) (argsL := [(.int p1)]) (rest := []) (W := 0) (lenOf own_pd2 rfl) rfl (Nat.le_of_eq rfl) (by decide) (by decide) (by decide) (by decide) (hb hby d3_6) ?_
  rintro _ T2 L2 X2 ⟨rfl, Nq2, Kq2, Eq2, x1_2, x2_2, x3_2, x4_2, x5_2, hlt2, Fq0_2, Fq1_2, Fq2_2, Fq3_2, Fq4_2, Fq5_2, Vq0_2, Vq1_2, Vq2_2, Vq3_2, Vq4_2⟩
  have N_2 := Fr.app N0 Nq2
  have Z_2 := Nat.le_trans Z0 Kq2.1
  have K_2 : Keep h0 T2.heap [r0] := (Keep.refl h0 [r0]).trans Kq2 (allS (Or.inl (List.mem_of_getElem? (i := 0) rfl)) all0)
  show Go _ _ _ _ _ _ _ T2 (mkF m 9 #[.val (.ref r0), .val (.int p1)] [])
  exact gRetV X2 hx hlk hret (hb hby d3_9) (by decide) (by decide) ⟨rfl, N_2, K_2, Eq2, x1_2, x2_2, x3_2, x4_2, x5_2, hlt2, Fq0_2, Fq1_2, Fq2_2, Fq3_2, Fq4_2, Fq5_2, Vq0_2, Vq1_2, Vq2_2, Vq3_2, Vq4_2⟩
theorem d4_0 : decode prog_7_method_7_code 0 = .ok (.iload_n 1, 1) := by decide +kernel
theorem d4_1 : decode prog_7_method_7_code 1 = .ok (.ldc 46, 2) := by decide +kernel
theorem d4_3 : decode prog_7_method_7_code 3 = .ok (.imul, 1) := by decide +kernel
theorem d4_4 : decode prog_7_method_7_code 4 = .ok (.iload_n 2, 1) := by decide +kernel
theorem d4_5 : decode prog_7_method_7_code 5 = .ok (.ldc 47, 2) := by decide +kernel
theorem d4_7 : decode prog_7_method_7_code 7 = .ok (.imul, 1) := by decide +kernel
theorem d4_8 : decode prog_7_method_7_code 8 = .ok (.iadd, 1) := by decide +kernel
theorem d4_9 : decode prog_7_method_7_code 9 = .ok (.iload_n 3, 1) := by decide +kernel
theorem d4_10 : decode prog_7_method_7_code 10 = .ok (.ldc 48, 2) := by decide +kernel
theorem d4_12 : decode prog_7_method_7_code 12 = .ok (.imul, 1) := by decide +kernel
theorem d4_13 : decode prog_7_method_7_code 13 = .ok (.iadd, 1) := by decide +kernel
theorem d4_14 : decode prog_7_method_7_code 14 = .ok (.iload 4, 2) := by decide +kernel
theorem d4_16 : decode prog_7_method_7_code 16 = .ok (.ldc 49, 2) := by decide +kernel
theorem d4_18 : decode prog_7_method_7_code 18 = .ok (.imul, 1) := by decide +kernel
theorem d4_19 : decode prog_7_method_7_code 19 = .ok (.iadd, 1) := by decide +kernel
theorem d4_20 : decode prog_7_method_7_code 20 = .ok (.istore 5, 2) := by decide +kernel
theorem d4_22 : decode prog_7_method_7_code 22 = .ok (.iload 5, 2) := by decide +kernel
theorem d4_24 : decode prog_7_method_7_code 24 = .ok (.iload 5, 2) := by decide +kernel
theorem d4_26 : decode prog_7_method_7_code 26 = .ok (.bipush 16, 2) := by decide +kernel
theorem d4_28 : decode prog_7_method_7_code 28 = .ok (.iushr, 1) := by decide +kernel
theorem d4_29 : decode prog_7_method_7_code 29 = .ok (.ixor, 1) := by decide +kernel
theorem d4_30 : decode prog_7_method_7_code 30 = .ok (.aload_n 0, 1) := by decide +kernel
theorem d4_31 : decode prog_7_method_7_code 31 = .ok (.getfield 29, 3) := by decide +kernel
theorem d4_34 : decode prog_7_method_7_code 34 = .ok (.iand, 1) := by decide +kernel
theorem d4_35 : decode prog_7_method_7_code 35 = .ok (.ireturn, 1) := by decide +kernel
theorem own_pn4 : plainFor (⟨"com/example/wee_check/weecheck/bdd/OperationCache", "slot", "(IIII)I"⟩ : MethodName) = true := plainFor_of_name (by first | (simp [plainName, overriddenIn]; done) | decide +kernel)
theorem own_ef4 (r0 : Addr) (p1 : Int32) (p2 : Int32) (p3 : Int32) (p4 : Int32) (m : MethodId) : entryFrame m #[(.ref r0), (.int p1), (.int p2), (.int p3), (.int p4)] 6 = mkF m 0 #[.val (.ref r0), .val (.int p1), .val (.int p2), .val (.int p3), .val (.int p4), .unset] [] := by first | (simp [entryFrame, mkF, argsToLocals, Value.category]; done) | rfl
theorem own_pd3 : parseMethodDescriptor "(IIII)I" = some ⟨[.int, .int, .int, .int], some .int⟩ := by decide +kernel
set_option maxRecDepth 65536 in
set_option maxHeartbeats 40000000 in
theorem own_rm4 (l : Launch) (Z : State) (a0 : Array Value) (hw : ∀ d ∈ tables_1, d.before a0 Z = true) (r0 : Addr) (p1 : Int32) (p2 : Int32) (p3 : Int32) (p4 : Int32) (h0 : Heap) (n0 : Nat) (Z0 : n0 ≤ h0.size) (mk : Int32) (F0 : Fld Z h0 r0 "com/example/wee_check/weecheck/bdd/OperationCache" "mask" "I" (.int mk)) :
    Met l Z (⟨"com/example/wee_check/weecheck/bdd/OperationCache", "slot", "(IIII)I"⟩ : MethodName) prog_7_method_7_code 6 (some .int) [] ({ frames := 0, cells := 0, slots := 0, locals := 0 } : Room) #[(.ref r0), (.int p1), (.int p2), (.int p3), (.int p4)] h0 (fun v h L => v = some (.int (own_slot mk p1 p2 p3 p4)) ∧ Fr n0 L ∧ h = h0) := by
  refine met_of (Ls := #[.val (.ref r0), .val (.int p1), .val (.int p2), .val (.int p3), .val (.int p4), .unset]) own_pn4 (own_ef4 r0 p1 p2 p3 p4) ?_
  intro p e s m below meth c s₁ hx hby hml hown hnm hret hlk hZ X0 e0
  have N0 := Fr.nil n0
  refine gIloadN X0 hx (hb hby d4_0) rfl ?_
  refine gLdc X0 hx hZ (668265263 : Int32) hown (tw hw 45 rfl) (hb hby d4_1) ?_
  refine gImul X0 hx (hb hby d4_3) ?_
  refine gIloadN X0 hx (hb hby d4_4) rfl ?_
  refine gLdc X0 hx hZ (-1640531535 : Int32) hown (tw hw 46 rfl) (hb hby d4_5) ?_
  refine gImul X0 hx (hb hby d4_7) ?_
  refine gIadd X0 hx (hb hby d4_8) ?_
  refine gIloadN X0 hx (hb hby d4_9) rfl ?_
  refine gLdc X0 hx hZ (-2048144777 : Int32) hown (tw hw 47 rfl) (hb hby d4_10) ?_
  refine gImul X0 hx (hb hby d4_12) ?_
  refine gIadd X0 hx (hb hby d4_13) ?_
  refine gIload X0 hx (hb hby d4_14) rfl ?_
  refine gLdc X0 hx hZ (-1028477379 : Int32) hown (tw hw 48 rfl) (hb hby d4_16) ?_
  refine gImul X0 hx (hb hby d4_18) ?_
  refine gIadd X0 hx (hb hby d4_19) ?_
  refine gIstore X0 hx #[.val (.ref r0), .val (.int p1), .val (.int p2), .val (.int p3), .val (.int p4), .val (.int ((((p1 * (668265263 : Int32)) + (p2 * (-1640531535 : Int32))) + (p3 * (-2048144777 : Int32))) + (p4 * (-1028477379 : Int32))))] (hb hby d4_20) rfl ?_
  refine gIload X0 hx (hb hby d4_22) rfl ?_
  refine gIload X0 hx (hb hby d4_24) rfl ?_
  refine gBipush X0 hx (16 : Int32) (hb hby d4_26) rfl ?_
  refine gIushr X0 hx (hb hby d4_28) ?_
  refine gIxor X0 hx (hb hby d4_29) ?_
  refine gAloadN X0 hx (hb hby d4_30) rfl rfl ?_
  refine gGetF X0 hx hZ hown (tw hw 25 rfl) e0 F0 (hb hby d4_31) ?_
  intro T1 X1 e1
  show Go _ _ _ _ _ _ _ T1 (mkF m 34 #[.val (.ref r0), .val (.int p1), .val (.int p2), .val (.int p3), .val (.int p4), .val (.int ((((p1 * (668265263 : Int32)) + (p2 * (-1640531535 : Int32))) + (p3 * (-2048144777 : Int32))) + (p4 * (-1028477379 : Int32))))] [(.int mk), (.int (((((p1 * (668265263 : Int32)) + (p2 * (-1640531535 : Int32))) + (p3 * (-2048144777 : Int32))) + (p4 * (-1028477379 : Int32))) ^^^ (XT.ushr ((((p1 * (668265263 : Int32)) + (p2 * (-1640531535 : Int32))) + (p3 * (-2048144777 : Int32))) + (p4 * (-1028477379 : Int32))) (16 : Int32))))])
  refine gIand X1 hx (hb hby d4_34) ?_
  exact gRetI X1 hx hlk hret (hb hby d4_35) (by decide) (by decide) ⟨rfl, N0, e1⟩
theorem d5_0 : decode prog_7_method_6_code 0 = .ok (.aload_n 0, 1) := by decide +kernel
theorem d5_1 : decode prog_7_method_6_code 1 = .ok (.iload_n 1, 1) := by decide +kernel
theorem d5_2 : decode prog_7_method_6_code 2 = .ok (.iload_n 2, 1) := by decide +kernel
theorem d5_3 : decode prog_7_method_6_code 3 = .ok (.iload_n 3, 1) := by decide +kernel
theorem d5_4 : decode prog_7_method_6_code 4 = .ok (.iload 4, 2) := by decide +kernel
theorem d5_6 : decode prog_7_method_6_code 6 = .ok (.invokevirtual 42, 3) := by decide +kernel
theorem d5_9 : decode prog_7_method_6_code 9 = .ok (.istore 6, 2) := by decide +kernel
theorem d5_11 : decode prog_7_method_6_code 11 = .ok (.aload_n 0, 1) := by decide +kernel
theorem d5_12 : decode prog_7_method_6_code 12 = .ok (.getfield 13, 3) := by decide +kernel
theorem d5_15 : decode prog_7_method_6_code 15 = .ok (.iload 6, 2) := by decide +kernel
theorem d5_17 : decode prog_7_method_6_code 17 = .ok (.iload_n 1, 1) := by decide +kernel
theorem d5_18 : decode prog_7_method_6_code 18 = .ok (.iastore, 1) := by decide +kernel
theorem d5_19 : decode prog_7_method_6_code 19 = .ok (.aload_n 0, 1) := by decide +kernel
theorem d5_20 : decode prog_7_method_6_code 20 = .ok (.getfield 17, 3) := by decide +kernel
theorem d5_23 : decode prog_7_method_6_code 23 = .ok (.iload 6, 2) := by decide +kernel
theorem d5_25 : decode prog_7_method_6_code 25 = .ok (.iload_n 2, 1) := by decide +kernel
theorem d5_26 : decode prog_7_method_6_code 26 = .ok (.iastore, 1) := by decide +kernel
theorem d5_27 : decode prog_7_method_6_code 27 = .ok (.aload_n 0, 1) := by decide +kernel
theorem d5_28 : decode prog_7_method_6_code 28 = .ok (.getfield 20, 3) := by decide +kernel
theorem d5_31 : decode prog_7_method_6_code 31 = .ok (.iload 6, 2) := by decide +kernel
theorem d5_33 : decode prog_7_method_6_code 33 = .ok (.iload_n 3, 1) := by decide +kernel
theorem d5_34 : decode prog_7_method_6_code 34 = .ok (.iastore, 1) := by decide +kernel
theorem d5_35 : decode prog_7_method_6_code 35 = .ok (.aload_n 0, 1) := by decide +kernel
theorem d5_36 : decode prog_7_method_6_code 36 = .ok (.getfield 23, 3) := by decide +kernel
theorem d5_39 : decode prog_7_method_6_code 39 = .ok (.iload 6, 2) := by decide +kernel
theorem d5_41 : decode prog_7_method_6_code 41 = .ok (.iload 4, 2) := by decide +kernel
theorem d5_43 : decode prog_7_method_6_code 43 = .ok (.iastore, 1) := by decide +kernel
theorem d5_44 : decode prog_7_method_6_code 44 = .ok (.aload_n 0, 1) := by decide +kernel
theorem d5_45 : decode prog_7_method_6_code 45 = .ok (.getfield 26, 3) := by decide +kernel
theorem d5_48 : decode prog_7_method_6_code 48 = .ok (.iload 6, 2) := by decide +kernel
theorem d5_50 : decode prog_7_method_6_code 50 = .ok (.iload 5, 2) := by decide +kernel
theorem d5_52 : decode prog_7_method_6_code 52 = .ok (.iastore, 1) := by decide +kernel
theorem d5_53 : decode prog_7_method_6_code 53 = .ok (.return_, 1) := by decide +kernel
theorem own_pn5 : plainFor (⟨"com/example/wee_check/weecheck/bdd/OperationCache", "store", "(IIIII)V"⟩ : MethodName) = true := plainFor_of_name (by first | (simp [plainName, overriddenIn]; done) | decide +kernel)
theorem own_ef5 (r0 : Addr) (p1 : Int32) (p2 : Int32) (p3 : Int32) (p4 : Int32) (p5 : Int32) (m : MethodId) : entryFrame m #[(.ref r0), (.int p1), (.int p2), (.int p3), (.int p4), (.int p5)] 7 = mkF m 0 #[.val (.ref r0), .val (.int p1), .val (.int p2), .val (.int p3), .val (.int p4), .val (.int p5), .unset] [] := by first | (simp [entryFrame, mkF, argsToLocals, Value.category]; done) | rfl
theorem own_pd4 : parseMethodDescriptor "(IIIII)V" = some ⟨[.int, .int, .int, .int, .int], none⟩ := by decide +kernel
set_option maxRecDepth 65536 in
set_option maxHeartbeats 40000000 in
theorem own_rm5 (l : Launch) (Z : State) (a0 : Array Value) (hw : ∀ d ∈ tables_1, d.before a0 Z = true) (r0 : Addr) (p1 : Int32) (p2 : Int32) (p3 : Int32) (p4 : Int32) (p5 : Int32) (h0 : Heap) (n0 : Nat) (Z0 : n0 ≤ h0.size) (x1 x2 x3 x4 x5 : Addr) (nn : Nat) (mk : Int32) (f1 f2 f3 f4 f5 : Nat → Int32) (hin : ¬ (own_slot mk p1 p2 p3 p4) < 0 ∧ (own_slot mk p1 p2 p3 p4).toNatClampNeg < nn) (E0 : Exa Z h0 r0 "com/example/wee_check/weecheck/bdd/OperationCache") (F0 : Fld Z h0 r0 "com/example/wee_check/weecheck/bdd/OperationCache" "operations" "[I" (.ref x1)) (F1 : Fld Z h0 r0 "com/example/wee_check/weecheck/bdd/OperationCache" "firsts" "[I" (.ref x2)) (F2 : Fld Z h0 r0 "com/example/wee_check/weecheck/bdd/OperationCache" "seconds" "[I" (.ref x3)) (F3 : Fld Z h0 r0 "com/example/wee_check/weecheck/bdd/OperationCache" "thirds" "[I" (.ref x4)) (F4 : Fld Z h0 r0 "com/example/wee_check/weecheck/bdd/OperationCache" "results" "[I" (.ref x5)) (F5 : Fld Z h0 r0 "com/example/wee_check/weecheck/bdd/OperationCache" "mask" "I" (.int mk)) (V0 : IA Z h0 x1 .int nn f1) (V1 : IA Z h0 x2 .int nn f2) (V2 : IA Z h0 x3 .int nn f3) (V3 : IA Z h0 x4 .int nn f4) (V4 : IA Z h0 x5 .int nn f5) (g0 : n0 ≤ r0) (hlt : r0 < x1 ∧ x1 < x2 ∧ x2 < x3 ∧ x3 < x4 ∧ x4 < x5) :
    Met l Z (⟨"com/example/wee_check/weecheck/bdd/OperationCache", "store", "(IIIII)V"⟩ : MethodName) prog_7_method_6_code 7 none [] ({ frames := 1, cells := 0, slots := 0, locals := 17 } : Room) #[(.ref r0), (.int p1), (.int p2), (.int p3), (.int p4), (.int p5)] h0 (fun v h L => v = none ∧ Fr n0 L ∧ Keep h0 h [x1, x2, x3, x4, x5] ∧ IA Z h x1 .int nn (upd f1 (own_slot mk p1 p2 p3 p4).toNatClampNeg p1) ∧ IA Z h x2 .int nn (upd f2 (own_slot mk p1 p2 p3 p4).toNatClampNeg p2) ∧ IA Z h x3 .int nn (upd f3 (own_slot mk p1 p2 p3 p4).toNatClampNeg p3) ∧ IA Z h x4 .int nn (upd f4 (own_slot mk p1 p2 p3 p4).toNatClampNeg p4) ∧ IA Z h x5 .int nn (upd f5 (own_slot mk p1 p2 p3 p4).toNatClampNeg p5)) := by
  refine met_of (Ls := #[.val (.ref r0), .val (.int p1), .val (.int p2), .val (.int p3), .val (.int p4), .val (.int p5), .unset]) own_pn5 (own_ef5 r0 p1 p2 p3 p4 p5) ?_
  intro p e s m below meth c s₁ hx hby hml hown hnm hret hlk hZ X0 e0
  have N0 := Fr.nil n0
  refine gAloadN X0 hx (hb hby d5_0) rfl rfl ?_
  refine gIloadN X0 hx (hb hby d5_1) rfl ?_
  refine gIloadN X0 hx (hb hby d5_2) rfl ?_
  refine gIloadN X0 hx (hb hby d5_3) rfl ?_
  refine gIload X0 hx (hb hby d5_4) rfl ?_
  refine gPrivate X0 hx hZ (y := (⟨"com/example/wee_check/weecheck/bdd/OperationCache", "slot", "(IIII)I"⟩ : MethodName)) (a := r0) hown (by decide) (tw hw 41 rfl) (tw hw 42 rfl) (tw hw 1 rfl) (tw hw 43 rfl) (tw hw 2 rfl) (tw hw 44 rfl) E0 (own_rm4 l Z a0 hw r0 p1 p2 p3 p4 h0 n0 Z0 mk F5) e0 (by rw [hml]; rfl) (argsL := [(.int p1), (.int p2), (.int p3), (.int p4)]) (rest := []) (W := 0) (lenOf own_pd3 rfl) rfl (Nat.le_of_eq rfl) (by decide) (by decide) (by decide) (by decide) (hb hby d5_6) ?_
  rintro _ T1 L1 X1 ⟨rfl, Nq1, e1⟩
  have N_1 := Fr.app N0 Nq1
  show Go _ _ _ _ _ _ _ T1 (mkF m 9 #[.val (.ref r0), .val (.int p1), .val (.int p2), .val (.int p3), .val (.int p4), .val (.int p5), .unset] [(.int (own_slot mk p1 p2 p3 p4))])
  refine gIstore X1 hx #[.val (.ref r0), .val (.int p1), .val (.int p2), .val (.int p3), .val (.int p4), .val (.int p5), .val (.int (own_slot mk p1 p2 p3 p4))] (hb hby d5_9) rfl ?_
  refine gAloadN X1 hx (hb hby d5_11) rfl rfl ?_
  refine gGetF X1 hx hZ hown (tw hw 15 rfl) e1 F0 (hb hby d5_12) ?_
  intro T2 X2 e2
  show Go _ _ _ _ _ _ _ T2 (mkF m 15 #[.val (.ref r0), .val (.int p1), .val (.int p2), .val (.int p3), .val (.int p4), .val (.int p5), .val (.int (own_slot mk p1 p2 p3 p4))] [(.ref x1)])
  refine gIload X2 hx (hb hby d5_15) rfl ?_
  refine gIloadN X2 hx (hb hby d5_17) rfl ?_
  refine gIastore X2 hx hZ e2 V0 _ rfl hin (hb hby d5_18) ?_
  intro T3 h3 X3 e3 W3 V0__3
  have E0__3 := E0.wr W3
  have F0__3 := F0.other W3 (Or.inl (own_ne_r0_x1 hlt))
  have F1__3 := F1.other W3 (Or.inl (own_ne_r0_x1 hlt))
  have V1__3 := V1.other W3 (Ne.symm (own_ne_x1_x2 hlt))
  have F2__3 := F2.other W3 (Or.inl (own_ne_r0_x1 hlt))
  have V2__3 := V2.other W3 (Ne.symm (own_ne_x1_x3 hlt))
  have F3__3 := F3.other W3 (Or.inl (own_ne_r0_x1 hlt))
  have V3__3 := V3.other W3 (Ne.symm (own_ne_x1_x4 hlt))
  have F4__3 := F4.other W3 (Or.inl (own_ne_r0_x1 hlt))
  have V4__3 := V4.other W3 (Ne.symm (own_ne_x1_x5 hlt))
  have F5__3 := F5.other W3 (Or.inl (own_ne_r0_x1 hlt))
  have Z_3 := Nat.le_trans Z0 (Nat.le_of_eq W3.size.symm)
  have K_3 : Keep h0 h3 [x1, x2, x3, x4, x5] := (Keep.refl h0 [x1, x2, x3, x4, x5]).wr W3 (Or.inl (List.mem_of_getElem? (i := 0) rfl))
  have N_3 := Fr.snoc X3 N_1 (own_ge_x1 g0 hlt)
  show Go _ _ _ _ _ _ _ T3 (mkF m 19 #[.val (.ref r0), .val (.int p1), .val (.int p2), .val (.int p3), .val (.int p4), .val (.int p5), .val (.int (own_slot mk p1 p2 p3 p4))] [])
  refine gAloadN X3 hx (hb hby d5_19) rfl rfl ?_
  refine gGetF X3 hx hZ hown (tw hw 17 rfl) e3 F1__3 (hb hby d5_20) ?_
  intro T4 X4 e4
  show Go _ _ _ _ _ _ _ T4 (mkF m 23 #[.val (.ref r0), .val (.int p1), .val (.int p2), .val (.int p3), .val (.int p4), .val (.int p5), .val (.int (own_slot mk p1 p2 p3 p4))] [(.ref x2)])
  refine gIload X4 hx (hb hby d5_23) rfl ?_
  refine gIloadN X4 hx (hb hby d5_25) rfl ?_
  refine gIastore X4 hx hZ e4 V1__3 _ rfl hin (hb hby d5_26) ?_
  intro T5 h5 X5 e5 W5 V1__5
  have E0__5 := E0__3.wr W5
  have F0__5 := F0__3.other W5 (Or.inl (own_ne_r0_x2 hlt))
  have V0__5 := V0__3.other W5 (own_ne_x1_x2 hlt)
  have F1__5 := F1__3.other W5 (Or.inl (own_ne_r0_x2 hlt))
  have F2__5 := F2__3.other W5 (Or.inl (own_ne_r0_x2 hlt))
  have V2__5 := V2__3.other W5 (Ne.symm (own_ne_x2_x3 hlt))
  have F3__5 := F3__3.other W5 (Or.inl (own_ne_r0_x2 hlt))
  have V3__5 := V3__3.other W5 (Ne.symm (own_ne_x2_x4 hlt))
  have F4__5 := F4__3.other W5 (Or.inl (own_ne_r0_x2 hlt))
  have V4__5 := V4__3.other W5 (Ne.symm (own_ne_x2_x5 hlt))
  have F5__5 := F5__3.other W5 (Or.inl (own_ne_r0_x2 hlt))
  have Z_5 := Nat.le_trans Z_3 (Nat.le_of_eq W5.size.symm)
  have K_5 : Keep h0 h5 [x1, x2, x3, x4, x5] := K_3.wr W5 (Or.inl (List.mem_of_getElem? (i := 1) rfl))
  have N_5 := Fr.snoc X5 N_3 (own_ge_x2 g0 hlt)
  show Go _ _ _ _ _ _ _ T5 (mkF m 27 #[.val (.ref r0), .val (.int p1), .val (.int p2), .val (.int p3), .val (.int p4), .val (.int p5), .val (.int (own_slot mk p1 p2 p3 p4))] [])
  refine gAloadN X5 hx (hb hby d5_27) rfl rfl ?_
  refine gGetF X5 hx hZ hown (tw hw 19 rfl) e5 F2__5 (hb hby d5_28) ?_
  intro T6 X6 e6
  show Go _ _ _ _ _ _ _ T6 (mkF m 31 #[.val (.ref r0), .val (.int p1), .val (.int p2), .val (.int p3), .val (.int p4), .val (.int p5), .val (.int (own_slot mk p1 p2 p3 p4))] [(.ref x3)])
  refine gIload X6 hx (hb hby d5_31) rfl ?_
  refine gIloadN X6 hx (hb hby d5_33) rfl ?_
  refine gIastore X6 hx hZ e6 V2__5 _ rfl hin (hb hby d5_34) ?_
  intro T7 h7 X7 e7 W7 V2__7
  have E0__7 := E0__5.wr W7
  have F0__7 := F0__5.other W7 (Or.inl (own_ne_r0_x3 hlt))
  have V0__7 := V0__5.other W7 (own_ne_x1_x3 hlt)
  have F1__7 := F1__5.other W7 (Or.inl (own_ne_r0_x3 hlt))
  have V1__7 := V1__5.other W7 (own_ne_x2_x3 hlt)
  have F2__7 := F2__5.other W7 (Or.inl (own_ne_r0_x3 hlt))
  have F3__7 := F3__5.other W7 (Or.inl (own_ne_r0_x3 hlt))
  have V3__7 := V3__5.other W7 (Ne.symm (own_ne_x3_x4 hlt))
  have F4__7 := F4__5.other W7 (Or.inl (own_ne_r0_x3 hlt))
  have V4__7 := V4__5.other W7 (Ne.symm (own_ne_x3_x5 hlt))
  have F5__7 := F5__5.other W7 (Or.inl (own_ne_r0_x3 hlt))
  have Z_7 := Nat.le_trans Z_5 (Nat.le_of_eq W7.size.symm)
  have K_7 : Keep h0 h7 [x1, x2, x3, x4, x5] := K_5.wr W7 (Or.inl (List.mem_of_getElem? (i := 2) rfl))
  have N_7 := Fr.snoc X7 N_5 (own_ge_x3 g0 hlt)
  show Go _ _ _ _ _ _ _ T7 (mkF m 35 #[.val (.ref r0), .val (.int p1), .val (.int p2), .val (.int p3), .val (.int p4), .val (.int p5), .val (.int (own_slot mk p1 p2 p3 p4))] [])
  refine gAloadN X7 hx (hb hby d5_35) rfl rfl ?_
  refine gGetF X7 hx hZ hown (tw hw 21 rfl) e7 F3__7 (hb hby d5_36) ?_
  intro T8 X8 e8
  show Go _ _ _ _ _ _ _ T8 (mkF m 39 #[.val (.ref r0), .val (.int p1), .val (.int p2), .val (.int p3), .val (.int p4), .val (.int p5), .val (.int (own_slot mk p1 p2 p3 p4))] [(.ref x4)])
  refine gIload X8 hx (hb hby d5_39) rfl ?_
  refine gIload X8 hx (hb hby d5_41) rfl ?_
  refine gIastore X8 hx hZ e8 V3__7 _ rfl hin (hb hby d5_43) ?_
  intro T9 h9 X9 e9 W9 V3__9
  have E0__9 := E0__7.wr W9
  have F0__9 := F0__7.other W9 (Or.inl (own_ne_r0_x4 hlt))
  have V0__9 := V0__7.other W9 (own_ne_x1_x4 hlt)
  have F1__9 := F1__7.other W9 (Or.inl (own_ne_r0_x4 hlt))
  have V1__9 := V1__7.other W9 (own_ne_x2_x4 hlt)
  have F2__9 := F2__7.other W9 (Or.inl (own_ne_r0_x4 hlt))
  have V2__9 := V2__7.other W9 (own_ne_x3_x4 hlt)
  have F3__9 := F3__7.other W9 (Or.inl (own_ne_r0_x4 hlt))
  have F4__9 := F4__7.other W9 (Or.inl (own_ne_r0_x4 hlt))
  have V4__9 := V4__7.other W9 (Ne.symm (own_ne_x4_x5 hlt))
  have F5__9 := F5__7.other W9 (Or.inl (own_ne_r0_x4 hlt))
  have Z_9 := Nat.le_trans Z_7 (Nat.le_of_eq W9.size.symm)
  have K_9 : Keep h0 h9 [x1, x2, x3, x4, x5] := K_7.wr W9 (Or.inl (List.mem_of_getElem? (i := 3) rfl))
  have N_9 := Fr.snoc X9 N_7 (own_ge_x4 g0 hlt)
  show Go _ _ _ _ _ _ _ T9 (mkF m 44 #[.val (.ref r0), .val (.int p1), .val (.int p2), .val (.int p3), .val (.int p4), .val (.int p5), .val (.int (own_slot mk p1 p2 p3 p4))] [])
  refine gAloadN X9 hx (hb hby d5_44) rfl rfl ?_
  refine gGetF X9 hx hZ hown (tw hw 23 rfl) e9 F4__9 (hb hby d5_45) ?_
  intro T10 X10 e10
  show Go _ _ _ _ _ _ _ T10 (mkF m 48 #[.val (.ref r0), .val (.int p1), .val (.int p2), .val (.int p3), .val (.int p4), .val (.int p5), .val (.int (own_slot mk p1 p2 p3 p4))] [(.ref x5)])
  refine gIload X10 hx (hb hby d5_48) rfl ?_
  refine gIload X10 hx (hb hby d5_50) rfl ?_
  refine gIastore X10 hx hZ e10 V4__9 _ rfl hin (hb hby d5_52) ?_
  intro T11 h11 X11 e11 W11 V4__11
  have E0__11 := E0__9.wr W11
  have F0__11 := F0__9.other W11 (Or.inl (own_ne_r0_x5 hlt))
  have V0__11 := V0__9.other W11 (own_ne_x1_x5 hlt)
  have F1__11 := F1__9.other W11 (Or.inl (own_ne_r0_x5 hlt))
  have V1__11 := V1__9.other W11 (own_ne_x2_x5 hlt)
  have F2__11 := F2__9.other W11 (Or.inl (own_ne_r0_x5 hlt))
  have V2__11 := V2__9.other W11 (own_ne_x3_x5 hlt)
  have F3__11 := F3__9.other W11 (Or.inl (own_ne_r0_x5 hlt))
  have V3__11 := V3__9.other W11 (own_ne_x4_x5 hlt)
  have F4__11 := F4__9.other W11 (Or.inl (own_ne_r0_x5 hlt))
  have F5__11 := F5__9.other W11 (Or.inl (own_ne_r0_x5 hlt))
  have Z_11 := Nat.le_trans Z_9 (Nat.le_of_eq W11.size.symm)
  have K_11 : Keep h0 h11 [x1, x2, x3, x4, x5] := K_9.wr W11 (Or.inl (List.mem_of_getElem? (i := 4) rfl))
  have N_11 := Fr.snoc X11 N_9 (own_ge_x5 g0 hlt)
  show Go _ _ _ _ _ _ _ T11 (mkF m 53 #[.val (.ref r0), .val (.int p1), .val (.int p2), .val (.int p3), .val (.int p4), .val (.int p5), .val (.int (own_slot mk p1 p2 p3 p4))] [])
  subst e11
  exact gRetV X11 hx hlk hret (hb hby d5_53) (by decide) (by decide) ⟨rfl, N_11, K_11, V0__11, V1__11, V2__11, V3__11, V4__11⟩
theorem d6_0 : decode prog_7_method_5_code 0 = .ok (.aload_n 0, 1) := by decide +kernel
theorem d6_1 : decode prog_7_method_5_code 1 = .ok (.iload_n 1, 1) := by decide +kernel
theorem d6_2 : decode prog_7_method_5_code 2 = .ok (.iload_n 2, 1) := by decide +kernel
theorem d6_3 : decode prog_7_method_5_code 3 = .ok (.iload_n 3, 1) := by decide +kernel
theorem d6_4 : decode prog_7_method_5_code 4 = .ok (.iload 4, 2) := by decide +kernel
theorem d6_6 : decode prog_7_method_5_code 6 = .ok (.invokevirtual 42, 3) := by decide +kernel
theorem d6_9 : decode prog_7_method_5_code 9 = .ok (.istore 5, 2) := by decide +kernel
theorem d6_11 : decode prog_7_method_5_code 11 = .ok (.aload_n 0, 1) := by decide +kernel
theorem d6_12 : decode prog_7_method_5_code 12 = .ok (.getfield 13, 3) := by decide +kernel
theorem d6_15 : decode prog_7_method_5_code 15 = .ok (.iload 5, 2) := by decide +kernel
theorem d6_17 : decode prog_7_method_5_code 17 = .ok (.iaload, 1) := by decide +kernel
theorem d6_18 : decode prog_7_method_5_code 18 = .ok (.iload_n 1, 1) := by decide +kernel
theorem d6_19 : decode prog_7_method_5_code 19 = .ok (.if_icmp .ne 45, 3) := by decide +kernel
theorem d6_22 : decode prog_7_method_5_code 22 = .ok (.aload_n 0, 1) := by decide +kernel
theorem d6_23 : decode prog_7_method_5_code 23 = .ok (.getfield 17, 3) := by decide +kernel
theorem d6_26 : decode prog_7_method_5_code 26 = .ok (.iload 5, 2) := by decide +kernel
theorem d6_28 : decode prog_7_method_5_code 28 = .ok (.iaload, 1) := by decide +kernel
theorem d6_29 : decode prog_7_method_5_code 29 = .ok (.iload_n 2, 1) := by decide +kernel
theorem d6_30 : decode prog_7_method_5_code 30 = .ok (.if_icmp .ne 34, 3) := by decide +kernel
theorem d6_33 : decode prog_7_method_5_code 33 = .ok (.aload_n 0, 1) := by decide +kernel
theorem d6_34 : decode prog_7_method_5_code 34 = .ok (.getfield 20, 3) := by decide +kernel
theorem d6_37 : decode prog_7_method_5_code 37 = .ok (.iload 5, 2) := by decide +kernel
theorem d6_39 : decode prog_7_method_5_code 39 = .ok (.iaload, 1) := by decide +kernel
theorem d6_40 : decode prog_7_method_5_code 40 = .ok (.iload_n 3, 1) := by decide +kernel
theorem d6_41 : decode prog_7_method_5_code 41 = .ok (.if_icmp .ne 23, 3) := by decide +kernel
theorem d6_44 : decode prog_7_method_5_code 44 = .ok (.aload_n 0, 1) := by decide +kernel
theorem d6_45 : decode prog_7_method_5_code 45 = .ok (.getfield 23, 3) := by decide +kernel
theorem d6_48 : decode prog_7_method_5_code 48 = .ok (.iload 5, 2) := by decide +kernel
theorem d6_50 : decode prog_7_method_5_code 50 = .ok (.iaload, 1) := by decide +kernel
theorem d6_51 : decode prog_7_method_5_code 51 = .ok (.iload 4, 2) := by decide +kernel
theorem d6_53 : decode prog_7_method_5_code 53 = .ok (.if_icmp .ne 11, 3) := by decide +kernel
theorem d6_56 : decode prog_7_method_5_code 56 = .ok (.aload_n 0, 1) := by decide +kernel
theorem d6_57 : decode prog_7_method_5_code 57 = .ok (.getfield 26, 3) := by decide +kernel
theorem d6_60 : decode prog_7_method_5_code 60 = .ok (.iload 5, 2) := by decide +kernel
theorem d6_62 : decode prog_7_method_5_code 62 = .ok (.iaload, 1) := by decide +kernel
theorem d6_63 : decode prog_7_method_5_code 63 = .ok (.ireturn, 1) := by decide +kernel
theorem d6_64 : decode prog_7_method_5_code 64 = .ok (.iconst (-1), 1) := by decide +kernel
theorem d6_65 : decode prog_7_method_5_code 65 = .ok (.ireturn, 1) := by decide +kernel
theorem own_pn6 : plainFor (⟨"com/example/wee_check/weecheck/bdd/OperationCache", "lookup", "(IIII)I"⟩ : MethodName) = true := plainFor_of_name (by first | (simp [plainName, overriddenIn]; done) | decide +kernel)
theorem own_ef6 (r0 : Addr) (p1 : Int32) (p2 : Int32) (p3 : Int32) (p4 : Int32) (m : MethodId) : entryFrame m #[(.ref r0), (.int p1), (.int p2), (.int p3), (.int p4)] 6 = mkF m 0 #[.val (.ref r0), .val (.int p1), .val (.int p2), .val (.int p3), .val (.int p4), .unset] [] := by first | (simp [entryFrame, mkF, argsToLocals, Value.category]; done) | rfl
set_option maxRecDepth 65536 in
set_option maxHeartbeats 40000000 in
theorem own_rm6 (l : Launch) (Z : State) (a0 : Array Value) (hw : ∀ d ∈ tables_1, d.before a0 Z = true) (r0 : Addr) (p1 : Int32) (p2 : Int32) (p3 : Int32) (p4 : Int32) (h0 : Heap) (n0 : Nat) (Z0 : n0 ≤ h0.size) (x1 x2 x3 x4 x5 : Addr) (nn : Nat) (mk : Int32) (f1 f2 f3 f4 f5 : Nat → Int32) (hin : ¬ (own_slot mk p1 p2 p3 p4) < 0 ∧ (own_slot mk p1 p2 p3 p4).toNatClampNeg < nn) (E0 : Exa Z h0 r0 "com/example/wee_check/weecheck/bdd/OperationCache") (F0 : Fld Z h0 r0 "com/example/wee_check/weecheck/bdd/OperationCache" "operations" "[I" (.ref x1)) (F1 : Fld Z h0 r0 "com/example/wee_check/weecheck/bdd/OperationCache" "firsts" "[I" (.ref x2)) (F2 : Fld Z h0 r0 "com/example/wee_check/weecheck/bdd/OperationCache" "seconds" "[I" (.ref x3)) (F3 : Fld Z h0 r0 "com/example/wee_check/weecheck/bdd/OperationCache" "thirds" "[I" (.ref x4)) (F4 : Fld Z h0 r0 "com/example/wee_check/weecheck/bdd/OperationCache" "results" "[I" (.ref x5)) (F5 : Fld Z h0 r0 "com/example/wee_check/weecheck/bdd/OperationCache" "mask" "I" (.int mk)) (V0 : IA Z h0 x1 .int nn f1) (V1 : IA Z h0 x2 .int nn f2) (V2 : IA Z h0 x3 .int nn f3) (V3 : IA Z h0 x4 .int nn f4) (V4 : IA Z h0 x5 .int nn f5) (g0 : n0 ≤ r0) (hlt : r0 < x1 ∧ x1 < x2 ∧ x2 < x3 ∧ x3 < x4 ∧ x4 < x5) :
    Met l Z (⟨"com/example/wee_check/weecheck/bdd/OperationCache", "lookup", "(IIII)I"⟩ : MethodName) prog_7_method_5_code 6 (some .int) [] ({ frames := 1, cells := 0, slots := 0, locals := 17 } : Room) #[(.ref r0), (.int p1), (.int p2), (.int p3), (.int p4)] h0 (fun v h L => v = some (.int (own_lk f1 f2 f3 f4 f5 (own_slot mk p1 p2 p3 p4).toNatClampNeg p1 p2 p3 p4)) ∧ Fr n0 L ∧ h = h0) := by
  refine met_of (Ls := #[.val (.ref r0), .val (.int p1), .val (.int p2), .val (.int p3), .val (.int p4), .unset]) own_pn6 (own_ef6 r0 p1 p2 p3 p4) ?_
  intro p e s m below meth c s₁ hx hby hml hown hnm hret hlk hZ X0 e0
  have N0 := Fr.nil n0
  refine gAloadN X0 hx (hb hby d6_0) rfl rfl ?_
  refine gIloadN X0 hx (hb hby d6_1) rfl ?_
  refine gIloadN X0 hx (hb hby d6_2) rfl ?_
  refine gIloadN X0 hx (hb hby d6_3) rfl ?_
  refine gIload X0 hx (hb hby d6_4) rfl ?_
  refine gPrivate X0 hx hZ (y := (⟨"com/example/wee_check/weecheck/bdd/OperationCache", "slot", "(IIII)I"⟩ : MethodName)) (a := r0) hown (by decide) (tw hw 41 rfl) (tw hw 42 rfl) (tw hw 1 rfl) (tw hw 43 rfl) (tw hw 2 rfl) (tw hw 44 rfl) E0 (own_rm4 l Z a0 hw r0 p1 p2 p3 p4 h0 n0 Z0 mk F5) e0 (by rw [hml]; rfl) (argsL := [(.int p1), (.int p2), (.int p3), (.int p4)]) (rest := []) (W := 0) (lenOf own_pd3 rfl) rfl (Nat.le_of_eq rfl) (by decide) (by decide) (by decide) (by decide) (hb hby d6_6) ?_
  rintro _ T1 L1 X1 ⟨rfl, Nq1, e1⟩
  have N_1 := Fr.app N0 Nq1
  show Go _ _ _ _ _ _ _ T1 (mkF m 9 #[.val (.ref r0), .val (.int p1), .val (.int p2), .val (.int p3), .val (.int p4), .unset] [(.int (own_slot mk p1 p2 p3 p4))])
  refine gIstore X1 hx #[.val (.ref r0), .val (.int p1), .val (.int p2), .val (.int p3), .val (.int p4), .val (.int (own_slot mk p1 p2 p3 p4))] (hb hby d6_9) rfl ?_
  refine gAloadN X1 hx (hb hby d6_11) rfl rfl ?_
  refine gGetF X1 hx hZ hown (tw hw 15 rfl) e1 F0 (hb hby d6_12) ?_
  intro T2 X2 e2
  show Go _ _ _ _ _ _ _ T2 (mkF m 15 #[.val (.ref r0), .val (.int p1), .val (.int p2), .val (.int p3), .val (.int p4), .val (.int (own_slot mk p1 p2 p3 p4))] [(.ref x1)])
  refine gIload X2 hx (hb hby d6_15) rfl ?_
  refine gIaload X2 hx hZ e2 V0 hin (hb hby d6_17) ?_
  show Go _ _ _ _ _ _ _ T2 (mkF m 18 #[.val (.ref r0), .val (.int p1), .val (.int p2), .val (.int p3), .val (.int p4), .val (.int (own_slot mk p1 p2 p3 p4))] [(.int (f1 (own_slot mk p1 p2 p3 p4).toNatClampNeg))])
  refine gIloadN X2 hx (hb hby d6_18) rfl ?_
  refine gIcmp X2 hx 64 (hb hby d6_19) (by decide) (by decide) (fun hT => ?_) (fun hT => ?_)
  · have hc3 := o_neT hT
    show Go _ _ _ _ _ _ _ T2 (mkF m 64 #[.val (.ref r0), .val (.int p1), .val (.int p2), .val (.int p3), .val (.int p4), .val (.int (own_slot mk p1 p2 p3 p4))] [])
    refine gIconst X2 hx (-1 : Int32) (hb hby d6_64) rfl ?_
    exact gRetI X2 hx hlk hret (hb hby d6_65) (by decide) (by decide) ⟨congrArg (fun z => some (Value.int z)) (show (own_lk f1 f2 f3 f4 f5 (own_slot mk p1 p2 p3 p4).toNatClampNeg p1 p2 p3 p4) = (-1 : Int32) from (if_neg hc3)).symm, N_1, e2⟩
  · have hc3 := o_neF hT
    show Go _ _ _ _ _ _ _ T2 (mkF m 22 #[.val (.ref r0), .val (.int p1), .val (.int p2), .val (.int p3), .val (.int p4), .val (.int (own_slot mk p1 p2 p3 p4))] [])
    refine gAloadN X2 hx (hb hby d6_22) rfl rfl ?_
    refine gGetF X2 hx hZ hown (tw hw 17 rfl) e2 F1 (hb hby d6_23) ?_
    intro T4 X4 e4
    show Go _ _ _ _ _ _ _ T4 (mkF m 26 #[.val (.ref r0), .val (.int p1), .val (.int p2), .val (.int p3), .val (.int p4), .val (.int (own_slot mk p1 p2 p3 p4))] [(.ref x2)])
    refine gIload X4 hx (hb hby d6_26) rfl ?_
    refine gIaload X4 hx hZ e4 V1 hin (hb hby d6_28) ?_
    show Go _ _ _ _ _ _ _ T4 (mkF m 29 #[.val (.ref r0), .val (.int p1), .val (.int p2), .val (.int p3), .val (.int p4), .val (.int (own_slot mk p1 p2 p3 p4))] [(.int (f2 (own_slot mk p1 p2 p3 p4).toNatClampNeg))])
    refine gIloadN X4 hx (hb hby d6_29) rfl ?_
    refine gIcmp X4 hx 64 (hb hby d6_30) (by decide) (by decide) (fun hT => ?_) (fun hT => ?_)
    · have hc5 := o_neT hT
      show Go _ _ _ _ _ _ _ T4 (mkF m 64 #[.val (.ref r0), .val (.int p1), .val (.int p2), .val (.int p3), .val (.int p4), .val (.int (own_slot mk p1 p2 p3 p4))] [])
      refine gIconst X4 hx (-1 : Int32) (hb hby d6_64) rfl ?_
      exact gRetI X4 hx hlk hret (hb hby d6_65) (by decide) (by decide) ⟨congrArg (fun z => some (Value.int z)) (show (own_lk f1 f2 f3 f4 f5 (own_slot mk p1 p2 p3 p4).toNatClampNeg p1 p2 p3 p4) = (-1 : Int32) from ((if_pos hc3).trans (if_neg hc5))).symm, N_1, e4⟩
    · have hc5 := o_neF hT
      show Go _ _ _ _ _ _ _ T4 (mkF m 33 #[.val (.ref r0), .val (.int p1), .val (.int p2), .val (.int p3), .val (.int p4), .val (.int (own_slot mk p1 p2 p3 p4))] [])
      refine gAloadN X4 hx (hb hby d6_33) rfl rfl ?_
      refine gGetF X4 hx hZ hown (tw hw 19 rfl) e4 F2 (hb hby d6_34) ?_
      intro T6 X6 e6
      show Go _ _ _ _ _ _ _ T6 (mkF m 37 #[.val (.ref r0), .val (.int p1), .val (.int p2), .val (.int p3), .val (.int p4), .val (.int (own_slot mk p1 p2 p3 p4))] [(.ref x3)])
      refine gIload X6 hx (hb hby d6_37) rfl ?_
      refine gIaload X6 hx hZ e6 V2 hin (hb hby d6_39) ?_
      show Go _ _ _ _ _ _ _ T6 (mkF m 40 #[.val (.ref r0), .val (.int p1), .val (.int p2), .val (.int p3), .val (.int p4), .val (.int (own_slot mk p1 p2 p3 p4))] [(.int (f3 (own_slot mk p1 p2 p3 p4).toNatClampNeg))])
      refine gIloadN X6 hx (hb hby d6_40) rfl ?_
      refine gIcmp X6 hx 64 (hb hby d6_41) (by decide) (by decide) (fun hT => ?_) (fun hT => ?_)
      · have hc7 := o_neT hT
        show Go _ _ _ _ _ _ _ T6 (mkF m 64 #[.val (.ref r0), .val (.int p1), .val (.int p2), .val (.int p3), .val (.int p4), .val (.int (own_slot mk p1 p2 p3 p4))] [])
        refine gIconst X6 hx (-1 : Int32) (hb hby d6_64) rfl ?_
        exact gRetI X6 hx hlk hret (hb hby d6_65) (by decide) (by decide) ⟨congrArg (fun z => some (Value.int z)) (show (own_lk f1 f2 f3 f4 f5 (own_slot mk p1 p2 p3 p4).toNatClampNeg p1 p2 p3 p4) = (-1 : Int32) from ((if_pos hc3).trans ((if_pos hc5).trans (if_neg hc7)))).symm, N_1, e6⟩
      · have hc7 := o_neF hT
        show Go _ _ _ _ _ _ _ T6 (mkF m 44 #[.val (.ref r0), .val (.int p1), .val (.int p2), .val (.int p3), .val (.int p4), .val (.int (own_slot mk p1 p2 p3 p4))] [])
        refine gAloadN X6 hx (hb hby d6_44) rfl rfl ?_
        refine gGetF X6 hx hZ hown (tw hw 21 rfl) e6 F3 (hb hby d6_45) ?_
        intro T8 X8 e8
        show Go _ _ _ _ _ _ _ T8 (mkF m 48 #[.val (.ref r0), .val (.int p1), .val (.int p2), .val (.int p3), .val (.int p4), .val (.int (own_slot mk p1 p2 p3 p4))] [(.ref x4)])
        refine gIload X8 hx (hb hby d6_48) rfl ?_
        refine gIaload X8 hx hZ e8 V3 hin (hb hby d6_50) ?_
        show Go _ _ _ _ _ _ _ T8 (mkF m 51 #[.val (.ref r0), .val (.int p1), .val (.int p2), .val (.int p3), .val (.int p4), .val (.int (own_slot mk p1 p2 p3 p4))] [(.int (f4 (own_slot mk p1 p2 p3 p4).toNatClampNeg))])
        refine gIload X8 hx (hb hby d6_51) rfl ?_
        refine gIcmp X8 hx 64 (hb hby d6_53) (by decide) (by decide) (fun hT => ?_) (fun hT => ?_)
        · have hc9 := o_neT hT
          show Go _ _ _ _ _ _ _ T8 (mkF m 64 #[.val (.ref r0), .val (.int p1), .val (.int p2), .val (.int p3), .val (.int p4), .val (.int (own_slot mk p1 p2 p3 p4))] [])
          refine gIconst X8 hx (-1 : Int32) (hb hby d6_64) rfl ?_
          exact gRetI X8 hx hlk hret (hb hby d6_65) (by decide) (by decide) ⟨congrArg (fun z => some (Value.int z)) (show (own_lk f1 f2 f3 f4 f5 (own_slot mk p1 p2 p3 p4).toNatClampNeg p1 p2 p3 p4) = (-1 : Int32) from ((if_pos hc3).trans ((if_pos hc5).trans ((if_pos hc7).trans (if_neg hc9))))).symm, N_1, e8⟩
        · have hc9 := o_neF hT
          show Go _ _ _ _ _ _ _ T8 (mkF m 56 #[.val (.ref r0), .val (.int p1), .val (.int p2), .val (.int p3), .val (.int p4), .val (.int (own_slot mk p1 p2 p3 p4))] [])
          refine gAloadN X8 hx (hb hby d6_56) rfl rfl ?_
          refine gGetF X8 hx hZ hown (tw hw 23 rfl) e8 F4 (hb hby d6_57) ?_
          intro T10 X10 e10
          show Go _ _ _ _ _ _ _ T10 (mkF m 60 #[.val (.ref r0), .val (.int p1), .val (.int p2), .val (.int p3), .val (.int p4), .val (.int (own_slot mk p1 p2 p3 p4))] [(.ref x5)])
          refine gIload X10 hx (hb hby d6_60) rfl ?_
          refine gIaload X10 hx hZ e10 V4 hin (hb hby d6_62) ?_
          show Go _ _ _ _ _ _ _ T10 (mkF m 63 #[.val (.ref r0), .val (.int p1), .val (.int p2), .val (.int p3), .val (.int p4), .val (.int (own_slot mk p1 p2 p3 p4))] [(.int (f5 (own_slot mk p1 p2 p3 p4).toNatClampNeg))])
          exact gRetI X10 hx hlk hret (hb hby d6_63) (by decide) (by decide) ⟨congrArg (fun z => some (Value.int z)) (show (own_lk f1 f2 f3 f4 f5 (own_slot mk p1 p2 p3 p4).toNatClampNeg p1 p2 p3 p4) = (f5 (own_slot mk p1 p2 p3 p4).toNatClampNeg) from ((if_pos hc3).trans ((if_pos hc5).trans ((if_pos hc7).trans (if_pos hc9))))).symm, N_1, e10⟩
theorem own_bit (x : Int32) : ¬ ((1 : Int32) <<< ((x &&& (31 : Int32)) &&& 31)) = 0 := by
  have h := c_mask x 31 5 (by decide) (by decide)
  have e : ∃ j : Fin 32, (x &&& 31) = Int32.ofNat j.val := by
    have h1 : 0 ≤ x.toInt % ((2 ^ 5 : Nat) : Int) ∧ x.toInt % ((2 ^ 5 : Nat) : Int) < 32 := by omega
    refine ⟨⟨(x.toInt % ((2 ^ 5 : Nat) : Int)).toNat, by omega⟩, Int32.toInt_inj.mp ?_⟩
    rw [h, Int32.toInt_ofNat_of_lt (by show (_ : Int).toNat < _; omega)]
    show _ = (((_ : Int).toNat : Nat) : Int)
    omega
  obtain ⟨j, e⟩ := e
  rw [e]
  have key : ∀ j : Fin 32, ¬ ((1 : Int32) <<< ((Int32.ofNat j.val) &&& 31)) = 0 := by decide
  exact key j
theorem own_xor {a b : Int32} (h : ¬ b = 0) : ¬ (a ^^^ b) = a := fun q => h (by
  have z : a ^^^ (a ^^^ b) = a ^^^ a := by rw [q]
  rwa [← Int32.xor_assoc, Int32.xor_self, Int32.zero_xor] at z)
theorem own_sel (x : Int32) : ¬ (x &&& (7 : Int32)) < 0 := by
  have h := c_mask x 7 3 (by decide) (by decide)
  rw [Int32.lt_iff_toInt_lt, show (0 : Int32).toInt = 0 from rfl, h]
  omega
theorem own_four {x : Int32} (h : ¬ x < 0) (h0 : ¬ x = 0) (h1 : ¬ x = 1) (h2 : ¬ x = 2) (h3 : ¬ x = 3) : ¬ x < (4 : Int32) := by
  simp only [Int32.lt_iff_toInt_lt, ← Int32.toInt_inj, show (0 : Int32).toInt = 0 from rfl, show (1 : Int32).toInt = 1 from rfl, show (2 : Int32).toInt = 2 from rfl, show (3 : Int32).toInt = 3 from rfl, show (4 : Int32).toInt = 4 from rfl] at *
  omega
theorem own_pn7 : plainFor x = true := plainFor_of_name (by first | (simp [plainName, overriddenIn]; done) | decide +kernel)
theorem own_ef7 (p0 : Int32) (p1 : Int32) (p2 : Int32) (p3 : Int32) (p4 : Int32) (p5 : Int32) (m : MethodId) : entryFrame m #[(.int p0), (.int p1), (.int p2), (.int p3), (.int p4), (.int p5)] maxLocals = mkF m 0 #[.val (.int p0), .val (.int p1), .val (.int p2), .val (.int p3), .val (.int p4), .val (.int p5), .unset, .unset, .unset, .unset, .unset, .unset, .unset, .unset, .unset, .unset] [] := by first | (simp [entryFrame, mkF, argsToLocals, Value.category, maxLocals]; done) | rfl
theorem own_pd5 : parseMethodDescriptor "(IIIIII)Z" = some ⟨[.int, .int, .int, .int, .int, .int], some .boolean⟩ := by decide +kernel
set_option maxRecDepth 65536 in
set_option maxHeartbeats 40000000 in
theorem own_rm7 (l : Launch) (Z : State) (a0 : Array Value) (hw : ∀ d ∈ tables_1, d.before a0 Z = true) (p0 : Int32) (p1 : Int32) (p2 : Int32) (p3 : Int32) (p4 : Int32) (p5 : Int32) (h0 : Heap) (n0 : Nat) (Z0 : n0 ≤ h0.size)  :
    Met l Z x code maxLocals ret tables_1 room_1 #[(.int p0), (.int p1), (.int p2), (.int p3), (.int p4), (.int p5)] h0 (fun v h L => v = some (.int 1) ∧ Fr n0 L) := by
  refine met_of (Ls := #[.val (.int p0), .val (.int p1), .val (.int p2), .val (.int p3), .val (.int p4), .val (.int p5), .unset, .unset, .unset, .unset, .unset, .unset, .unset, .unset, .unset, .unset]) own_pn7 (own_ef7 p0 p1 p2 p3 p4 p5) ?_
  intro p e s m below meth c s₁ hx hby hml hown hnm hret hlk hZ X0 e0
  have N0 := Fr.nil n0
  refine gIconst X0 hx (1 : Int32) (hb hby at_0) rfl ?_
  refine gIloadN X0 hx (hb hby at_1) rfl ?_
  refine gIconst X0 hx (3 : Int32) (hb hby at_2) rfl ?_
  refine gIand X0 hx (hb hby at_3) ?_
  refine gIshl X0 hx (hb hby at_4) ?_
  obtain ⟨nn, hn, hnc, hneg, hmask, hone⟩ := own_size p0
  generalize ((1 : Int32) <<< ((p0 &&& (3 : Int32)) &&& 31)) = sz at hnc hneg hmask hone ⊢
  refine gIstore X0 hx #[.val (.int p0), .val (.int p1), .val (.int p2), .val (.int p3), .val (.int p4), .val (.int p5), .val (.int sz), .unset, .unset, .unset, .unset, .unset, .unset, .unset, .unset, .unset] (hb hby at_5) rfl ?_
  refine gNew X0 hx hZ hown (tw hw 0 rfl) (tw hw 1 rfl) (tw hw 2 rfl) e0 (hb hby at_7) (by decide) (by decide) ?_
  intro T1 h1 b1 X1 e1 E1 g1 A1 D1
  have g_b1 : n0 ≤ b1 := by rw [g1]; exact Z0
  have Z_1 := Nat.le_trans Z0 E1.1
  have F_operations_b1 : Fld Z h1 b1 "com/example/wee_check/weecheck/bdd/OperationCache" "operations" "[I" .null := D1 (Or.inl (tw hw 16 rfl)) (ty := (.array .int)) (by decide)
  have F_firsts_b1 : Fld Z h1 b1 "com/example/wee_check/weecheck/bdd/OperationCache" "firsts" "[I" .null := D1 (Or.inl (tw hw 18 rfl)) (ty := (.array .int)) (by decide)
  have F_seconds_b1 : Fld Z h1 b1 "com/example/wee_check/weecheck/bdd/OperationCache" "seconds" "[I" .null := D1 (Or.inl (tw hw 20 rfl)) (ty := (.array .int)) (by decide)
  have F_thirds_b1 : Fld Z h1 b1 "com/example/wee_check/weecheck/bdd/OperationCache" "thirds" "[I" .null := D1 (Or.inl (tw hw 22 rfl)) (ty := (.array .int)) (by decide)
  have F_results_b1 : Fld Z h1 b1 "com/example/wee_check/weecheck/bdd/OperationCache" "results" "[I" .null := D1 (Or.inl (tw hw 24 rfl)) (ty := (.array .int)) (by decide)
  have F_mask_b1 : Fld Z h1 b1 "com/example/wee_check/weecheck/bdd/OperationCache" "mask" "I" (.int (0 : Int32)) := D1 (Or.inl (tw hw 26 rfl)) (ty := .int) (by decide)
  show Go _ _ _ _ _ _ _ T1 (mkF m 10 #[.val (.int p0), .val (.int p1), .val (.int p2), .val (.int p3), .val (.int p4), .val (.int p5), .val (.int sz), .unset, .unset, .unset, .unset, .unset, .unset, .unset, .unset, .unset] [(.ref b1)])
  refine gDup X1 hx (hb hby at_10) rfl ?_
  refine gIload X1 hx (hb hby at_11) rfl ?_
  refine gInit X1 hx hZ (y := (⟨"com/example/wee_check/weecheck/bdd/OperationCache", "<init>", "(I)V"⟩ : MethodName)) (a := b1) hown rfl (by decide) (tw hw 3 rfl) (tw hw 4 rfl) (tw hw 2 rfl) (tw hw 5 rfl) (own_rm3 l Z a0 hw b1 sz h1 n0 Z_1 nn hn hnc hneg A1 F_operations_b1 F_firsts_b1 F_seconds_b1 F_thirds_b1 F_results_b1 F_mask_b1 g_b1) e1 (by rw [hml]; rfl) (argsL := [(.int sz)]) (rest := [(.ref b1)]) (W := 1) (lenOf own_pd2 rfl) rfl (Nat.le_of_eq rfl) (by decide) (by decide) (by decide) (by decide) (hb hby at_13) ?_
  rintro _ T2 L2 X2 ⟨rfl, Nq2, Kq2, Eq2, x1_2, x2_2, x3_2, x4_2, x5_2, hlt2, Fq0_2, Fq1_2, Fq2_2, Fq3_2, Fq4_2, Fq5_2, Vq0_2, Vq1_2, Vq2_2, Vq3_2, Vq4_2⟩
  have N_2 := Fr.app N0 Nq2
  have Z_2 := Nat.le_trans Z_1 Kq2.1
  show Go _ _ _ _ _ _ _ T2 (mkF m 16 #[.val (.int p0), .val (.int p1), .val (.int p2), .val (.int p3), .val (.int p4), .val (.int p5), .val (.int sz), .unset, .unset, .unset, .unset, .unset, .unset, .unset, .unset, .unset] [(.ref b1)])
  refine gAstore X2 hx #[.val (.int p0), .val (.int p1), .val (.int p2), .val (.int p3), .val (.int p4), .val (.int p5), .val (.int sz), .val (.ref b1), .unset, .unset, .unset, .unset, .unset, .unset, .unset, .unset] (hb hby at_16) rfl rfl ?_
  refine gAload X2 hx (hb hby at_18) rfl rfl ?_
  refine gIloadN X2 hx (hb hby at_20) rfl ?_
  refine gIloadN X2 hx (hb hby at_21) rfl ?_
  refine gIloadN X2 hx (hb hby at_22) rfl ?_
  refine gIload X2 hx (hb hby at_23) rfl ?_
  refine gIload X2 hx (hb hby at_25) rfl ?_
  refine gVirtual X2 hx hZ (y := (⟨"com/example/wee_check/weecheck/bdd/OperationCache", "store", "(IIIII)V"⟩ : MethodName)) (a := b1) hown (by decide) (tw hw 36 rfl) (tw hw 37 rfl) (tw hw 38 rfl) (tw hw 39 rfl) (tw hw 2 rfl) (tw hw 40 rfl) Eq2 (own_rm5 l Z a0 hw b1 p1 p2 p3 p4 p5 T2.heap n0 Z_2 x1_2 x2_2 x3_2 x4_2 x5_2 nn (sz - (1 : Int32)) (fun _ => (-1 : Int32)) (fun _ => 0) (fun _ => 0) (fun _ => 0) (fun _ => 0) (hmask p1 p2 p3 p4) Eq2 Fq0_2 Fq1_2 Fq2_2 Fq3_2 Fq4_2 Fq5_2 Vq0_2 Vq1_2 Vq2_2 Vq3_2 Vq4_2 g_b1 hlt2) rfl (by rw [hml]; rfl) (argsL := [(.int p1), (.int p2), (.int p3), (.int p4), (.int p5)]) (rest := []) (W := 0) (lenOf own_pd4 rfl) rfl (Nat.le_of_eq rfl) (by decide) (by decide) (by decide) (by decide) (hb hby at_27) ?_
  rintro _ T3 L3 X3 ⟨rfl, Nq3, Kq3, Vq0_3, Vq1_3, Vq2_3, Vq3_3, Vq4_3⟩
  have N_3 := Fr.app N_2 Nq3
  have Eq2__3 := Eq2.keep Kq3
  have Fq0_2__3 := Fq0_2.keep Kq3 (ninS (own_ne_r0_x1 hlt2) (ninS (own_ne_r0_x2 hlt2) (ninS (own_ne_r0_x3 hlt2) (ninS (own_ne_r0_x4 hlt2) (ninS (own_ne_r0_x5 hlt2) nin0)))))
  have Fq1_2__3 := Fq1_2.keep Kq3 (ninS (own_ne_r0_x1 hlt2) (ninS (own_ne_r0_x2 hlt2) (ninS (own_ne_r0_x3 hlt2) (ninS (own_ne_r0_x4 hlt2) (ninS (own_ne_r0_x5 hlt2) nin0)))))
  have Fq2_2__3 := Fq2_2.keep Kq3 (ninS (own_ne_r0_x1 hlt2) (ninS (own_ne_r0_x2 hlt2) (ninS (own_ne_r0_x3 hlt2) (ninS (own_ne_r0_x4 hlt2) (ninS (own_ne_r0_x5 hlt2) nin0)))))
  have Fq3_2__3 := Fq3_2.keep Kq3 (ninS (own_ne_r0_x1 hlt2) (ninS (own_ne_r0_x2 hlt2) (ninS (own_ne_r0_x3 hlt2) (ninS (own_ne_r0_x4 hlt2) (ninS (own_ne_r0_x5 hlt2) nin0)))))
  have Fq4_2__3 := Fq4_2.keep Kq3 (ninS (own_ne_r0_x1 hlt2) (ninS (own_ne_r0_x2 hlt2) (ninS (own_ne_r0_x3 hlt2) (ninS (own_ne_r0_x4 hlt2) (ninS (own_ne_r0_x5 hlt2) nin0)))))
  have Fq5_2__3 := Fq5_2.keep Kq3 (ninS (own_ne_r0_x1 hlt2) (ninS (own_ne_r0_x2 hlt2) (ninS (own_ne_r0_x3 hlt2) (ninS (own_ne_r0_x4 hlt2) (ninS (own_ne_r0_x5 hlt2) nin0)))))
  have Z_3 := Nat.le_trans Z_2 Kq3.1
  show Go _ _ _ _ _ _ _ T3 (mkF m 30 #[.val (.int p0), .val (.int p1), .val (.int p2), .val (.int p3), .val (.int p4), .val (.int p5), .val (.int sz), .val (.ref b1), .unset, .unset, .unset, .unset, .unset, .unset, .unset, .unset] [])
  refine gAload X3 hx (hb hby at_30) rfl rfl ?_
  refine gIloadN X3 hx (hb hby at_32) rfl ?_
  refine gIloadN X3 hx (hb hby at_33) rfl ?_
  refine gIloadN X3 hx (hb hby at_34) rfl ?_
  refine gIload X3 hx (hb hby at_35) rfl ?_
  refine gVirtual X3 hx hZ (y := (⟨"com/example/wee_check/weecheck/bdd/OperationCache", "lookup", "(IIII)I"⟩ : MethodName)) (a := b1) hown (by decide) (tw hw 49 rfl) (tw hw 50 rfl) (tw hw 51 rfl) (tw hw 52 rfl) (tw hw 2 rfl) (tw hw 53 rfl) Eq2__3 (own_rm6 l Z a0 hw b1 p1 p2 p3 p4 T3.heap n0 Z_3 x1_2 x2_2 x3_2 x4_2 x5_2 nn (sz - (1 : Int32)) (upd (fun _ => (-1 : Int32)) (own_slot (sz - (1 : Int32)) p1 p2 p3 p4).toNatClampNeg p1) (upd (fun _ => 0) (own_slot (sz - (1 : Int32)) p1 p2 p3 p4).toNatClampNeg p2) (upd (fun _ => 0) (own_slot (sz - (1 : Int32)) p1 p2 p3 p4).toNatClampNeg p3) (upd (fun _ => 0) (own_slot (sz - (1 : Int32)) p1 p2 p3 p4).toNatClampNeg p4) (upd (fun _ => 0) (own_slot (sz - (1 : Int32)) p1 p2 p3 p4).toNatClampNeg p5) (hmask p1 p2 p3 p4) Eq2__3 Fq0_2__3 Fq1_2__3 Fq2_2__3 Fq3_2__3 Fq4_2__3 Fq5_2__3 Vq0_3 Vq1_3 Vq2_3 Vq3_3 Vq4_3 g_b1 hlt2) rfl (by rw [hml]; rfl) (argsL := [(.int p1), (.int p2), (.int p3), (.int p4)]) (rest := []) (W := 0) (lenOf own_pd3 rfl) rfl (Nat.le_of_eq rfl) (by decide) (by decide) (by decide) (by decide) (hb hby at_37) ?_
  rintro _ T4 L4 X4 ⟨rfl, Nq4, e4⟩
  have N_4 := Fr.app N_3 Nq4
  show Go _ _ _ _ _ _ _ T4 (mkF m 40 #[.val (.int p0), .val (.int p1), .val (.int p2), .val (.int p3), .val (.int p4), .val (.int p5), .val (.int sz), .val (.ref b1), .unset, .unset, .unset, .unset, .unset, .unset, .unset, .unset] [(.int (own_lk (upd (fun _ => (-1 : Int32)) (own_slot (sz - (1 : Int32)) p1 p2 p3 p4).toNatClampNeg p1) (upd (fun _ => 0) (own_slot (sz - (1 : Int32)) p1 p2 p3 p4).toNatClampNeg p2) (upd (fun _ => 0) (own_slot (sz - (1 : Int32)) p1 p2 p3 p4).toNatClampNeg p3) (upd (fun _ => 0) (own_slot (sz - (1 : Int32)) p1 p2 p3 p4).toNatClampNeg p4) (upd (fun _ => 0) (own_slot (sz - (1 : Int32)) p1 p2 p3 p4).toNatClampNeg p5) (own_slot (sz - (1 : Int32)) p1 p2 p3 p4).toNatClampNeg p1 p2 p3 p4))])
  refine gIload X4 hx (hb hby at_40) rfl ?_
  refine gIcmp X4 hx 47 (hb hby at_42) (by decide) (by decide) (fun _ => ?_) (fun q => absurd (own_hit _ _ _ _ _ _ _ _ _ _ _) (o_eqF q))
  show Go _ _ _ _ _ _ _ T4 (mkF m 47 #[.val (.int p0), .val (.int p1), .val (.int p2), .val (.int p3), .val (.int p4), .val (.int p5), .val (.int sz), .val (.ref b1), .unset, .unset, .unset, .unset, .unset, .unset, .unset, .unset] [])
  refine gIloadN X4 hx (hb hby at_47) rfl ?_
  refine gIconst X4 hx (2 : Int32) (hb hby at_48) rfl ?_
  refine gIushr X4 hx (hb hby at_49) ?_
  refine gBipush X4 hx (7 : Int32) (hb hby at_50) rfl ?_
  refine gIand X4 hx (hb hby at_52) ?_
  have hs0 := own_sel (XT.ushr p0 (2 : Int32))
  generalize ((XT.ushr p0 (2 : Int32)) &&& (7 : Int32)) = sel at hs0 ⊢
  refine gIstore X4 hx #[.val (.int p0), .val (.int p1), .val (.int p2), .val (.int p3), .val (.int p4), .val (.int p5), .val (.int sz), .val (.ref b1), .val (.int sel), .unset, .unset, .unset, .unset, .unset, .unset, .unset] (hb hby at_53) rfl ?_
  refine gIconst X4 hx (1 : Int32) (hb hby at_55) rfl ?_
  refine gIloadN X4 hx (hb hby at_56) rfl ?_
  refine gIconst X4 hx (5 : Int32) (hb hby at_57) rfl ?_
  refine gIushr X4 hx (hb hby at_58) ?_
  refine gBipush X4 hx (31 : Int32) (hb hby at_59) rfl ?_
  refine gIand X4 hx (hb hby at_61) ?_
  refine gIshl X4 hx (hb hby at_62) ?_
  have hb0 := own_bit (XT.ushr p0 (5 : Int32))
  generalize ((1 : Int32) <<< (((XT.ushr p0 (5 : Int32)) &&& (31 : Int32)) &&& 31)) = bit at hb0 ⊢
  refine gIstore X4 hx #[.val (.int p0), .val (.int p1), .val (.int p2), .val (.int p3), .val (.int p4), .val (.int p5), .val (.int sz), .val (.ref b1), .val (.int sel), .val (.int bit), .unset, .unset, .unset, .unset, .unset, .unset] (hb hby at_63) rfl ?_
  refine gIloadN X4 hx (hb hby at_65) rfl ?_
  refine gIstore X4 hx #[.val (.int p0), .val (.int p1), .val (.int p2), .val (.int p3), .val (.int p4), .val (.int p5), .val (.int sz), .val (.ref b1), .val (.int sel), .val (.int bit), .val (.int p1), .unset, .unset, .unset, .unset, .unset] (hb hby at_66) rfl ?_
  refine gIloadN X4 hx (hb hby at_68) rfl ?_
  refine gIstore X4 hx #[.val (.int p0), .val (.int p1), .val (.int p2), .val (.int p3), .val (.int p4), .val (.int p5), .val (.int sz), .val (.ref b1), .val (.int sel), .val (.int bit), .val (.int p1), .val (.int p2), .unset, .unset, .unset, .unset] (hb hby at_69) rfl ?_
  refine gIloadN X4 hx (hb hby at_71) rfl ?_
  refine gIstore X4 hx #[.val (.int p0), .val (.int p1), .val (.int p2), .val (.int p3), .val (.int p4), .val (.int p5), .val (.int sz), .val (.ref b1), .val (.int sel), .val (.int bit), .val (.int p1), .val (.int p2), .val (.int p3), .unset, .unset, .unset] (hb hby at_72) rfl ?_
  refine gIload X4 hx (hb hby at_74) rfl ?_
  refine gIstore X4 hx #[.val (.int p0), .val (.int p1), .val (.int p2), .val (.int p3), .val (.int p4), .val (.int p5), .val (.int sz), .val (.ref b1), .val (.int sel), .val (.int bit), .val (.int p1), .val (.int p2), .val (.int p3), .val (.int p4), .unset, .unset] (hb hby at_76) rfl ?_
  have B135 : ∀ o2 a2 b2 c2 : Int32, ((¬ sel < (4 : Int32) ∧ o2 = p1 ∧ a2 = p2 ∧ b2 = p3 ∧ c2 = p4) ∨ (sel < (4 : Int32) ∧ ¬ (o2 = p1 ∧ a2 = p2 ∧ b2 = p3 ∧ c2 = p4))) → Go p e below s room_1.cells room_1.slots (fun v h L => v = some (.int 1) ∧ Fr n0 L) T4 (mkF m 135 #[.val (.int p0), .val (.int p1), .val (.int p2), .val (.int p3), .val (.int p4), .val (.int p5), .val (.int sz), .val (.ref b1), .val (.int sel), .val (.int bit), .val (.int o2), .val (.int a2), .val (.int b2), .val (.int c2), .unset, .unset] []) := by
    intro o2 a2 b2 c2 hrel
    show Go _ _ _ _ _ _ _ T4 (mkF m 135 #[.val (.int p0), .val (.int p1), .val (.int p2), .val (.int p3), .val (.int p4), .val (.int p5), .val (.int sz), .val (.ref b1), .val (.int sel), .val (.int bit), .val (.int o2), .val (.int a2), .val (.int b2), .val (.int c2), .unset, .unset] [])
    refine gIload X4 hx (hb hby at_135) rfl ?_
    refine gIconst X4 hx (-1 : Int32) (hb hby at_137) rfl ?_
    refine gIxor X4 hx (hb hby at_138) ?_
    refine gIstore X4 hx #[.val (.int p0), .val (.int p1), .val (.int p2), .val (.int p3), .val (.int p4), .val (.int p5), .val (.int sz), .val (.ref b1), .val (.int sel), .val (.int bit), .val (.int o2), .val (.int a2), .val (.int b2), .val (.int c2), .val (.int (p5 ^^^ (-1 : Int32))), .unset] (hb hby at_139) rfl ?_
    refine gAload X4 hx (hb hby at_141) rfl rfl ?_
    refine gIload X4 hx (hb hby at_143) rfl ?_
    refine gIload X4 hx (hb hby at_145) rfl ?_
    refine gIload X4 hx (hb hby at_147) rfl ?_
    refine gIload X4 hx (hb hby at_149) rfl ?_
    refine gIload X4 hx (hb hby at_151) rfl ?_
    refine gVirtual X4 hx hZ (y := (⟨"com/example/wee_check/weecheck/bdd/OperationCache", "store", "(IIIII)V"⟩ : MethodName)) (a := b1) hown (by decide) (tw hw 36 rfl) (tw hw 37 rfl) (tw hw 38 rfl) (tw hw 39 rfl) (tw hw 2 rfl) (tw hw 40 rfl) Eq2__3 (own_rm5 l Z a0 hw b1 o2 a2 b2 c2 (p5 ^^^ (-1 : Int32)) T3.heap n0 Z_3 x1_2 x2_2 x3_2 x4_2 x5_2 nn (sz - (1 : Int32)) (upd (fun _ => (-1 : Int32)) (own_slot (sz - (1 : Int32)) p1 p2 p3 p4).toNatClampNeg p1) (upd (fun _ => 0) (own_slot (sz - (1 : Int32)) p1 p2 p3 p4).toNatClampNeg p2) (upd (fun _ => 0) (own_slot (sz - (1 : Int32)) p1 p2 p3 p4).toNatClampNeg p3) (upd (fun _ => 0) (own_slot (sz - (1 : Int32)) p1 p2 p3 p4).toNatClampNeg p4) (upd (fun _ => 0) (own_slot (sz - (1 : Int32)) p1 p2 p3 p4).toNatClampNeg p5) (hmask o2 a2 b2 c2) Eq2__3 Fq0_2__3 Fq1_2__3 Fq2_2__3 Fq3_2__3 Fq4_2__3 Fq5_2__3 Vq0_3 Vq1_3 Vq2_3 Vq3_3 Vq4_3 g_b1 hlt2) e4 (by rw [hml]; rfl) (argsL := [(.int o2), (.int a2), (.int b2), (.int c2), (.int (p5 ^^^ (-1 : Int32)))]) (rest := []) (W := 0) (lenOf own_pd4 rfl) rfl (Nat.le_of_eq rfl) (by decide) (by decide) (by decide) (by decide) (hb hby at_153) ?_
    rintro _ T5 L5 X5 ⟨rfl, Nq5, Kq5, Vq0_5, Vq1_5, Vq2_5, Vq3_5, Vq4_5⟩
    have N_5 := Fr.app N_4 Nq5
    have Eq2__5 := Eq2__3.keep Kq5
    have Fq0_2__5 := Fq0_2__3.keep Kq5 (ninS (own_ne_r0_x1 hlt2) (ninS (own_ne_r0_x2 hlt2) (ninS (own_ne_r0_x3 hlt2) (ninS (own_ne_r0_x4 hlt2) (ninS (own_ne_r0_x5 hlt2) nin0)))))
    have Fq1_2__5 := Fq1_2__3.keep Kq5 (ninS (own_ne_r0_x1 hlt2) (ninS (own_ne_r0_x2 hlt2) (ninS (own_ne_r0_x3 hlt2) (ninS (own_ne_r0_x4 hlt2) (ninS (own_ne_r0_x5 hlt2) nin0)))))
    have Fq2_2__5 := Fq2_2__3.keep Kq5 (ninS (own_ne_r0_x1 hlt2) (ninS (own_ne_r0_x2 hlt2) (ninS (own_ne_r0_x3 hlt2) (ninS (own_ne_r0_x4 hlt2) (ninS (own_ne_r0_x5 hlt2) nin0)))))
    have Fq3_2__5 := Fq3_2__3.keep Kq5 (ninS (own_ne_r0_x1 hlt2) (ninS (own_ne_r0_x2 hlt2) (ninS (own_ne_r0_x3 hlt2) (ninS (own_ne_r0_x4 hlt2) (ninS (own_ne_r0_x5 hlt2) nin0)))))
    have Fq4_2__5 := Fq4_2__3.keep Kq5 (ninS (own_ne_r0_x1 hlt2) (ninS (own_ne_r0_x2 hlt2) (ninS (own_ne_r0_x3 hlt2) (ninS (own_ne_r0_x4 hlt2) (ninS (own_ne_r0_x5 hlt2) nin0)))))
    have Fq5_2__5 := Fq5_2__3.keep Kq5 (ninS (own_ne_r0_x1 hlt2) (ninS (own_ne_r0_x2 hlt2) (ninS (own_ne_r0_x3 hlt2) (ninS (own_ne_r0_x4 hlt2) (ninS (own_ne_r0_x5 hlt2) nin0)))))
    have Z_5 := Nat.le_trans Z_3 Kq5.1
    show Go _ _ _ _ _ _ _ T5 (mkF m 156 #[.val (.int p0), .val (.int p1), .val (.int p2), .val (.int p3), .val (.int p4), .val (.int p5), .val (.int sz), .val (.ref b1), .val (.int sel), .val (.int bit), .val (.int o2), .val (.int a2), .val (.int b2), .val (.int c2), .val (.int (p5 ^^^ (-1 : Int32))), .unset] [])
    refine gAload X5 hx (hb hby at_156) rfl rfl ?_
    refine gIload X5 hx (hb hby at_158) rfl ?_
    refine gIload X5 hx (hb hby at_160) rfl ?_
    refine gIload X5 hx (hb hby at_162) rfl ?_
    refine gIload X5 hx (hb hby at_164) rfl ?_
    refine gVirtual X5 hx hZ (y := (⟨"com/example/wee_check/weecheck/bdd/OperationCache", "lookup", "(IIII)I"⟩ : MethodName)) (a := b1) hown (by decide) (tw hw 49 rfl) (tw hw 50 rfl) (tw hw 51 rfl) (tw hw 52 rfl) (tw hw 2 rfl) (tw hw 53 rfl) Eq2__5 (own_rm6 l Z a0 hw b1 o2 a2 b2 c2 T5.heap n0 Z_5 x1_2 x2_2 x3_2 x4_2 x5_2 nn (sz - (1 : Int32)) (upd (upd (fun _ => (-1 : Int32)) (own_slot (sz - (1 : Int32)) p1 p2 p3 p4).toNatClampNeg p1) (own_slot (sz - (1 : Int32)) o2 a2 b2 c2).toNatClampNeg o2) (upd (upd (fun _ => 0) (own_slot (sz - (1 : Int32)) p1 p2 p3 p4).toNatClampNeg p2) (own_slot (sz - (1 : Int32)) o2 a2 b2 c2).toNatClampNeg a2) (upd (upd (fun _ => 0) (own_slot (sz - (1 : Int32)) p1 p2 p3 p4).toNatClampNeg p3) (own_slot (sz - (1 : Int32)) o2 a2 b2 c2).toNatClampNeg b2) (upd (upd (fun _ => 0) (own_slot (sz - (1 : Int32)) p1 p2 p3 p4).toNatClampNeg p4) (own_slot (sz - (1 : Int32)) o2 a2 b2 c2).toNatClampNeg c2) (upd (upd (fun _ => 0) (own_slot (sz - (1 : Int32)) p1 p2 p3 p4).toNatClampNeg p5) (own_slot (sz - (1 : Int32)) o2 a2 b2 c2).toNatClampNeg (p5 ^^^ (-1 : Int32))) (hmask o2 a2 b2 c2) Eq2__5 Fq0_2__5 Fq1_2__5 Fq2_2__5 Fq3_2__5 Fq4_2__5 Fq5_2__5 Vq0_5 Vq1_5 Vq2_5 Vq3_5 Vq4_5 g_b1 hlt2) rfl (by rw [hml]; rfl) (argsL := [(.int o2), (.int a2), (.int b2), (.int c2)]) (rest := []) (W := 0) (lenOf own_pd3 rfl) rfl (Nat.le_of_eq rfl) (by decide) (by decide) (by decide) (by decide) (hb hby at_166) ?_
    rintro _ T6 L6 X6 ⟨rfl, Nq6, e6⟩
    have N_6 := Fr.app N_5 Nq6
    show Go _ _ _ _ _ _ _ T6 (mkF m 169 #[.val (.int p0), .val (.int p1), .val (.int p2), .val (.int p3), .val (.int p4), .val (.int p5), .val (.int sz), .val (.ref b1), .val (.int sel), .val (.int bit), .val (.int o2), .val (.int a2), .val (.int b2), .val (.int c2), .val (.int (p5 ^^^ (-1 : Int32))), .unset] [(.int (own_lk (upd (upd (fun _ => (-1 : Int32)) (own_slot (sz - (1 : Int32)) p1 p2 p3 p4).toNatClampNeg p1) (own_slot (sz - (1 : Int32)) o2 a2 b2 c2).toNatClampNeg o2) (upd (upd (fun _ => 0) (own_slot (sz - (1 : Int32)) p1 p2 p3 p4).toNatClampNeg p2) (own_slot (sz - (1 : Int32)) o2 a2 b2 c2).toNatClampNeg a2) (upd (upd (fun _ => 0) (own_slot (sz - (1 : Int32)) p1 p2 p3 p4).toNatClampNeg p3) (own_slot (sz - (1 : Int32)) o2 a2 b2 c2).toNatClampNeg b2) (upd (upd (fun _ => 0) (own_slot (sz - (1 : Int32)) p1 p2 p3 p4).toNatClampNeg p4) (own_slot (sz - (1 : Int32)) o2 a2 b2 c2).toNatClampNeg c2) (upd (upd (fun _ => 0) (own_slot (sz - (1 : Int32)) p1 p2 p3 p4).toNatClampNeg p5) (own_slot (sz - (1 : Int32)) o2 a2 b2 c2).toNatClampNeg (p5 ^^^ (-1 : Int32))) (own_slot (sz - (1 : Int32)) o2 a2 b2 c2).toNatClampNeg o2 a2 b2 c2))])
    refine gIload X6 hx (hb hby at_169) rfl ?_
    refine gIcmp X6 hx 176 (hb hby at_171) (by decide) (by decide) (fun _ => ?_) (fun q => absurd (own_hit _ _ _ _ _ _ _ _ _ _ _) (o_eqF q))
    show Go _ _ _ _ _ _ _ T6 (mkF m 176 #[.val (.int p0), .val (.int p1), .val (.int p2), .val (.int p3), .val (.int p4), .val (.int p5), .val (.int sz), .val (.ref b1), .val (.int sel), .val (.int bit), .val (.int o2), .val (.int a2), .val (.int b2), .val (.int c2), .val (.int (p5 ^^^ (-1 : Int32))), .unset] [])
    refine gAload X6 hx (hb hby at_176) rfl rfl ?_
    refine gIloadN X6 hx (hb hby at_178) rfl ?_
    refine gIloadN X6 hx (hb hby at_179) rfl ?_
    refine gIloadN X6 hx (hb hby at_180) rfl ?_
    refine gIload X6 hx (hb hby at_181) rfl ?_
    refine gVirtual X6 hx hZ (y := (⟨"com/example/wee_check/weecheck/bdd/OperationCache", "lookup", "(IIII)I"⟩ : MethodName)) (a := b1) hown (by decide) (tw hw 49 rfl) (tw hw 50 rfl) (tw hw 51 rfl) (tw hw 52 rfl) (tw hw 2 rfl) (tw hw 53 rfl) Eq2__5 (own_rm6 l Z a0 hw b1 p1 p2 p3 p4 T5.heap n0 Z_5 x1_2 x2_2 x3_2 x4_2 x5_2 nn (sz - (1 : Int32)) (upd (upd (fun _ => (-1 : Int32)) (own_slot (sz - (1 : Int32)) p1 p2 p3 p4).toNatClampNeg p1) (own_slot (sz - (1 : Int32)) o2 a2 b2 c2).toNatClampNeg o2) (upd (upd (fun _ => 0) (own_slot (sz - (1 : Int32)) p1 p2 p3 p4).toNatClampNeg p2) (own_slot (sz - (1 : Int32)) o2 a2 b2 c2).toNatClampNeg a2) (upd (upd (fun _ => 0) (own_slot (sz - (1 : Int32)) p1 p2 p3 p4).toNatClampNeg p3) (own_slot (sz - (1 : Int32)) o2 a2 b2 c2).toNatClampNeg b2) (upd (upd (fun _ => 0) (own_slot (sz - (1 : Int32)) p1 p2 p3 p4).toNatClampNeg p4) (own_slot (sz - (1 : Int32)) o2 a2 b2 c2).toNatClampNeg c2) (upd (upd (fun _ => 0) (own_slot (sz - (1 : Int32)) p1 p2 p3 p4).toNatClampNeg p5) (own_slot (sz - (1 : Int32)) o2 a2 b2 c2).toNatClampNeg (p5 ^^^ (-1 : Int32))) (hmask p1 p2 p3 p4) Eq2__5 Fq0_2__5 Fq1_2__5 Fq2_2__5 Fq3_2__5 Fq4_2__5 Fq5_2__5 Vq0_5 Vq1_5 Vq2_5 Vq3_5 Vq4_5 g_b1 hlt2) e6 (by rw [hml]; rfl) (argsL := [(.int p1), (.int p2), (.int p3), (.int p4)]) (rest := []) (W := 0) (lenOf own_pd3 rfl) rfl (Nat.le_of_eq rfl) (by decide) (by decide) (by decide) (by decide) (hb hby at_183) ?_
    rintro _ T7 L7 X7 ⟨rfl, Nq7, e7⟩
    have N_7 := Fr.app N_6 Nq7
    show Go _ _ _ _ _ _ _ T7 (mkF m 186 #[.val (.int p0), .val (.int p1), .val (.int p2), .val (.int p3), .val (.int p4), .val (.int p5), .val (.int sz), .val (.ref b1), .val (.int sel), .val (.int bit), .val (.int o2), .val (.int a2), .val (.int b2), .val (.int c2), .val (.int (p5 ^^^ (-1 : Int32))), .unset] [(.int (own_lk (upd (upd (fun _ => (-1 : Int32)) (own_slot (sz - (1 : Int32)) p1 p2 p3 p4).toNatClampNeg p1) (own_slot (sz - (1 : Int32)) o2 a2 b2 c2).toNatClampNeg o2) (upd (upd (fun _ => 0) (own_slot (sz - (1 : Int32)) p1 p2 p3 p4).toNatClampNeg p2) (own_slot (sz - (1 : Int32)) o2 a2 b2 c2).toNatClampNeg a2) (upd (upd (fun _ => 0) (own_slot (sz - (1 : Int32)) p1 p2 p3 p4).toNatClampNeg p3) (own_slot (sz - (1 : Int32)) o2 a2 b2 c2).toNatClampNeg b2) (upd (upd (fun _ => 0) (own_slot (sz - (1 : Int32)) p1 p2 p3 p4).toNatClampNeg p4) (own_slot (sz - (1 : Int32)) o2 a2 b2 c2).toNatClampNeg c2) (upd (upd (fun _ => 0) (own_slot (sz - (1 : Int32)) p1 p2 p3 p4).toNatClampNeg p5) (own_slot (sz - (1 : Int32)) o2 a2 b2 c2).toNatClampNeg (p5 ^^^ (-1 : Int32))) (own_slot (sz - (1 : Int32)) p1 p2 p3 p4).toNatClampNeg p1 p2 p3 p4))])
    have hA : ¬ sel < (4 : Int32) → (own_lk (upd (upd (fun _ => (-1 : Int32)) (own_slot (sz - (1 : Int32)) p1 p2 p3 p4).toNatClampNeg p1) (own_slot (sz - (1 : Int32)) o2 a2 b2 c2).toNatClampNeg o2) (upd (upd (fun _ => 0) (own_slot (sz - (1 : Int32)) p1 p2 p3 p4).toNatClampNeg p2) (own_slot (sz - (1 : Int32)) o2 a2 b2 c2).toNatClampNeg a2) (upd (upd (fun _ => 0) (own_slot (sz - (1 : Int32)) p1 p2 p3 p4).toNatClampNeg p3) (own_slot (sz - (1 : Int32)) o2 a2 b2 c2).toNatClampNeg b2) (upd (upd (fun _ => 0) (own_slot (sz - (1 : Int32)) p1 p2 p3 p4).toNatClampNeg p4) (own_slot (sz - (1 : Int32)) o2 a2 b2 c2).toNatClampNeg c2) (upd (upd (fun _ => 0) (own_slot (sz - (1 : Int32)) p1 p2 p3 p4).toNatClampNeg p5) (own_slot (sz - (1 : Int32)) o2 a2 b2 c2).toNatClampNeg (p5 ^^^ (-1 : Int32))) (own_slot (sz - (1 : Int32)) p1 p2 p3 p4).toNatClampNeg p1 p2 p3 p4) = (p5 ^^^ (-1 : Int32)) := by
      intro q; rcases hrel with ⟨-, rfl, rfl, rfl, rfl⟩ | ⟨q2, -⟩
      · exact own_hit _ _ _ _ _ _ _ _ _ _ _
      · exact absurd q2 q
    have hB : sel < (4 : Int32) → (own_lk (upd (upd (fun _ => (-1 : Int32)) (own_slot (sz - (1 : Int32)) p1 p2 p3 p4).toNatClampNeg p1) (own_slot (sz - (1 : Int32)) o2 a2 b2 c2).toNatClampNeg o2) (upd (upd (fun _ => 0) (own_slot (sz - (1 : Int32)) p1 p2 p3 p4).toNatClampNeg p2) (own_slot (sz - (1 : Int32)) o2 a2 b2 c2).toNatClampNeg a2) (upd (upd (fun _ => 0) (own_slot (sz - (1 : Int32)) p1 p2 p3 p4).toNatClampNeg p3) (own_slot (sz - (1 : Int32)) o2 a2 b2 c2).toNatClampNeg b2) (upd (upd (fun _ => 0) (own_slot (sz - (1 : Int32)) p1 p2 p3 p4).toNatClampNeg p4) (own_slot (sz - (1 : Int32)) o2 a2 b2 c2).toNatClampNeg c2) (upd (upd (fun _ => 0) (own_slot (sz - (1 : Int32)) p1 p2 p3 p4).toNatClampNeg p5) (own_slot (sz - (1 : Int32)) o2 a2 b2 c2).toNatClampNeg (p5 ^^^ (-1 : Int32))) (own_slot (sz - (1 : Int32)) p1 p2 p3 p4).toNatClampNeg p1 p2 p3 p4) = p5 ∨ (own_lk (upd (upd (fun _ => (-1 : Int32)) (own_slot (sz - (1 : Int32)) p1 p2 p3 p4).toNatClampNeg p1) (own_slot (sz - (1 : Int32)) o2 a2 b2 c2).toNatClampNeg o2) (upd (upd (fun _ => 0) (own_slot (sz - (1 : Int32)) p1 p2 p3 p4).toNatClampNeg p2) (own_slot (sz - (1 : Int32)) o2 a2 b2 c2).toNatClampNeg a2) (upd (upd (fun _ => 0) (own_slot (sz - (1 : Int32)) p1 p2 p3 p4).toNatClampNeg p3) (own_slot (sz - (1 : Int32)) o2 a2 b2 c2).toNatClampNeg b2) (upd (upd (fun _ => 0) (own_slot (sz - (1 : Int32)) p1 p2 p3 p4).toNatClampNeg p4) (own_slot (sz - (1 : Int32)) o2 a2 b2 c2).toNatClampNeg c2) (upd (upd (fun _ => 0) (own_slot (sz - (1 : Int32)) p1 p2 p3 p4).toNatClampNeg p5) (own_slot (sz - (1 : Int32)) o2 a2 b2 c2).toNatClampNeg (p5 ^^^ (-1 : Int32))) (own_slot (sz - (1 : Int32)) p1 p2 p3 p4).toNatClampNeg p1 p2 p3 p4) = (-1 : Int32) := by
      intro q; rcases hrel with ⟨q2, -⟩ | ⟨-, hne⟩
      · exact absurd q q2
      · by_cases hs : (own_slot (sz - (1 : Int32)) p1 p2 p3 p4).toNatClampNeg = (own_slot (sz - (1 : Int32)) o2 a2 b2 c2).toNatClampNeg
        · rw [hs]; exact Or.inr (own_miss _ _ _ _ _ hne)
        · exact Or.inl ((own_far _ _ _ _ _ hs).trans (own_hit _ _ _ _ _ _ _ _ _ _ _))
    have hC : sel < (4 : Int32) → sz = (1 : Int32) → (own_lk (upd (upd (fun _ => (-1 : Int32)) (own_slot (sz - (1 : Int32)) p1 p2 p3 p4).toNatClampNeg p1) (own_slot (sz - (1 : Int32)) o2 a2 b2 c2).toNatClampNeg o2) (upd (upd (fun _ => 0) (own_slot (sz - (1 : Int32)) p1 p2 p3 p4).toNatClampNeg p2) (own_slot (sz - (1 : Int32)) o2 a2 b2 c2).toNatClampNeg a2) (upd (upd (fun _ => 0) (own_slot (sz - (1 : Int32)) p1 p2 p3 p4).toNatClampNeg p3) (own_slot (sz - (1 : Int32)) o2 a2 b2 c2).toNatClampNeg b2) (upd (upd (fun _ => 0) (own_slot (sz - (1 : Int32)) p1 p2 p3 p4).toNatClampNeg p4) (own_slot (sz - (1 : Int32)) o2 a2 b2 c2).toNatClampNeg c2) (upd (upd (fun _ => 0) (own_slot (sz - (1 : Int32)) p1 p2 p3 p4).toNatClampNeg p5) (own_slot (sz - (1 : Int32)) o2 a2 b2 c2).toNatClampNeg (p5 ^^^ (-1 : Int32))) (own_slot (sz - (1 : Int32)) p1 p2 p3 p4).toNatClampNeg p1 p2 p3 p4) = (-1 : Int32) := by
      intro q z; rcases hrel with ⟨q2, -⟩ | ⟨-, hne⟩
      · exact absurd q q2
      · have n1 := hone z
        have s1 := (hmask p1 p2 p3 p4).2
        have s2 := (hmask o2 a2 b2 c2).2
        have hs : (own_slot (sz - (1 : Int32)) p1 p2 p3 p4).toNatClampNeg = (own_slot (sz - (1 : Int32)) o2 a2 b2 c2).toNatClampNeg := by omega
        rw [hs]; exact own_miss _ _ _ _ _ hne
    generalize (own_lk (upd (upd (fun _ => (-1 : Int32)) (own_slot (sz - (1 : Int32)) p1 p2 p3 p4).toNatClampNeg p1) (own_slot (sz - (1 : Int32)) o2 a2 b2 c2).toNatClampNeg o2) (upd (upd (fun _ => 0) (own_slot (sz - (1 : Int32)) p1 p2 p3 p4).toNatClampNeg p2) (own_slot (sz - (1 : Int32)) o2 a2 b2 c2).toNatClampNeg a2) (upd (upd (fun _ => 0) (own_slot (sz - (1 : Int32)) p1 p2 p3 p4).toNatClampNeg p3) (own_slot (sz - (1 : Int32)) o2 a2 b2 c2).toNatClampNeg b2) (upd (upd (fun _ => 0) (own_slot (sz - (1 : Int32)) p1 p2 p3 p4).toNatClampNeg p4) (own_slot (sz - (1 : Int32)) o2 a2 b2 c2).toNatClampNeg c2) (upd (upd (fun _ => 0) (own_slot (sz - (1 : Int32)) p1 p2 p3 p4).toNatClampNeg p5) (own_slot (sz - (1 : Int32)) o2 a2 b2 c2).toNatClampNeg (p5 ^^^ (-1 : Int32))) (own_slot (sz - (1 : Int32)) p1 p2 p3 p4).toNatClampNeg p1 p2 p3 p4) = fi at hA hB hC ⊢
    refine gIstore X7 hx #[.val (.int p0), .val (.int p1), .val (.int p2), .val (.int p3), .val (.int p4), .val (.int p5), .val (.int sz), .val (.ref b1), .val (.int sel), .val (.int bit), .val (.int o2), .val (.int a2), .val (.int b2), .val (.int c2), .val (.int (p5 ^^^ (-1 : Int32))), .val (.int fi)] (hb hby at_186) rfl ?_
    refine gIload X7 hx (hb hby at_188) rfl ?_
    refine gIconst X7 hx (4 : Int32) (hb hby at_190) rfl ?_
    refine gIcmp X7 hx 207 (hb hby at_191) (by decide) (by decide) (fun hT => ?_) (fun hT => ?_)
    · have hc8 := o_ltT hT
      show Go _ _ _ _ _ _ _ T7 (mkF m 207 #[.val (.int p0), .val (.int p1), .val (.int p2), .val (.int p3), .val (.int p4), .val (.int p5), .val (.int sz), .val (.ref b1), .val (.int sel), .val (.int bit), .val (.int o2), .val (.int a2), .val (.int b2), .val (.int c2), .val (.int (p5 ^^^ (-1 : Int32))), .val (.int fi)] [])
      refine gIload X7 hx (hb hby at_207) rfl ?_
      refine gIconst X7 hx (1 : Int32) (hb hby at_209) rfl ?_
      refine gIcmp X7 hx 225 (hb hby at_210) (by decide) (by decide) (fun hT => ?_) (fun hT => ?_)
      · have hc9 := o_neT hT
        show Go _ _ _ _ _ _ _ T7 (mkF m 225 #[.val (.int p0), .val (.int p1), .val (.int p2), .val (.int p3), .val (.int p4), .val (.int p5), .val (.int sz), .val (.ref b1), .val (.int sel), .val (.int bit), .val (.int o2), .val (.int a2), .val (.int b2), .val (.int c2), .val (.int (p5 ^^^ (-1 : Int32))), .val (.int fi)] [])
        refine gIload X7 hx (hb hby at_225) rfl ?_
        refine gIload X7 hx (hb hby at_227) rfl ?_
        refine gIcmp X7 hx 238 (hb hby at_229) (by decide) (by decide) (fun hT => ?_) (fun hT => ?_)
        · have hc10 := o_eqT hT
          show Go _ _ _ _ _ _ _ T7 (mkF m 238 #[.val (.int p0), .val (.int p1), .val (.int p2), .val (.int p3), .val (.int p4), .val (.int p5), .val (.int sz), .val (.ref b1), .val (.int sel), .val (.int bit), .val (.int o2), .val (.int a2), .val (.int b2), .val (.int c2), .val (.int (p5 ^^^ (-1 : Int32))), .val (.int fi)] [])
          refine gIconst X7 hx (1 : Int32) (hb hby at_238) rfl ?_
          refine gGoto X7 hx 243 (hb hby at_239) (by decide) (by decide) ?_
          exact gRetZ X7 hx hlk hret (by simp) (hb hby at_243) (z' := (1 : Int32)) rfl (by decide) (by decide) ⟨rfl, N_7⟩
        · have hc10 := o_eqF hT
          show Go _ _ _ _ _ _ _ T7 (mkF m 232 #[.val (.int p0), .val (.int p1), .val (.int p2), .val (.int p3), .val (.int p4), .val (.int p5), .val (.int sz), .val (.ref b1), .val (.int sel), .val (.int bit), .val (.int o2), .val (.int a2), .val (.int b2), .val (.int c2), .val (.int (p5 ^^^ (-1 : Int32))), .val (.int fi)] [])
          refine gIload X7 hx (hb hby at_232) rfl ?_
          refine gIconst X7 hx (-1 : Int32) (hb hby at_234) rfl ?_
          refine gIcmp X7 hx 242 (hb hby at_235) (by decide) (by decide) (fun q => absurd ((hB hc8).resolve_left hc10) (o_neT q)) (fun _ => ?_)
          show Go _ _ _ _ _ _ _ T7 (mkF m 238 #[.val (.int p0), .val (.int p1), .val (.int p2), .val (.int p3), .val (.int p4), .val (.int p5), .val (.int sz), .val (.ref b1), .val (.int sel), .val (.int bit), .val (.int o2), .val (.int a2), .val (.int b2), .val (.int c2), .val (.int (p5 ^^^ (-1 : Int32))), .val (.int fi)] [])
          refine gIconst X7 hx (1 : Int32) (hb hby at_238) rfl ?_
          refine gGoto X7 hx 243 (hb hby at_239) (by decide) (by decide) ?_
          exact gRetZ X7 hx hlk hret (by simp) (hb hby at_243) (z' := (1 : Int32)) rfl (by decide) (by decide) ⟨rfl, N_7⟩
      · have hc9 := o_neF hT
        show Go _ _ _ _ _ _ _ T7 (mkF m 213 #[.val (.int p0), .val (.int p1), .val (.int p2), .val (.int p3), .val (.int p4), .val (.int p5), .val (.int sz), .val (.ref b1), .val (.int sel), .val (.int bit), .val (.int o2), .val (.int a2), .val (.int b2), .val (.int c2), .val (.int (p5 ^^^ (-1 : Int32))), .val (.int fi)] [])
        refine gIload X7 hx (hb hby at_213) rfl ?_
        refine gIconst X7 hx (-1 : Int32) (hb hby at_215) rfl ?_
        refine gIcmp X7 hx 223 (hb hby at_216) (by decide) (by decide) (fun q => absurd (hC hc8 hc9) (o_neT q)) (fun _ => ?_)
        show Go _ _ _ _ _ _ _ T7 (mkF m 219 #[.val (.int p0), .val (.int p1), .val (.int p2), .val (.int p3), .val (.int p4), .val (.int p5), .val (.int sz), .val (.ref b1), .val (.int sel), .val (.int bit), .val (.int o2), .val (.int a2), .val (.int b2), .val (.int c2), .val (.int (p5 ^^^ (-1 : Int32))), .val (.int fi)] [])
        refine gIconst X7 hx (1 : Int32) (hb hby at_219) rfl ?_
        refine gGoto X7 hx 224 (hb hby at_220) (by decide) (by decide) ?_
        exact gRetZ X7 hx hlk hret (by simp) (hb hby at_224) (z' := (1 : Int32)) rfl (by decide) (by decide) ⟨rfl, N_7⟩
    · have hc8 := o_ltF hT
      show Go _ _ _ _ _ _ _ T7 (mkF m 194 #[.val (.int p0), .val (.int p1), .val (.int p2), .val (.int p3), .val (.int p4), .val (.int p5), .val (.int sz), .val (.ref b1), .val (.int sel), .val (.int bit), .val (.int o2), .val (.int a2), .val (.int b2), .val (.int c2), .val (.int (p5 ^^^ (-1 : Int32))), .val (.int fi)] [])
      refine gIload X7 hx (hb hby at_194) rfl ?_
      refine gIload X7 hx (hb hby at_196) rfl ?_
      refine gIcmp X7 hx 205 (hb hby at_198) (by decide) (by decide) (fun q => absurd (hA hc8) (o_neT q)) (fun _ => ?_)
      show Go _ _ _ _ _ _ _ T7 (mkF m 201 #[.val (.int p0), .val (.int p1), .val (.int p2), .val (.int p3), .val (.int p4), .val (.int p5), .val (.int sz), .val (.ref b1), .val (.int sel), .val (.int bit), .val (.int o2), .val (.int a2), .val (.int b2), .val (.int c2), .val (.int (p5 ^^^ (-1 : Int32))), .val (.int fi)] [])
      refine gIconst X7 hx (1 : Int32) (hb hby at_201) rfl ?_
      refine gGoto X7 hx 206 (hb hby at_202) (by decide) (by decide) ?_
      exact gRetZ X7 hx hlk hret (by simp) (hb hby at_206) (z' := (1 : Int32)) rfl (by decide) (by decide) ⟨rfl, N_7⟩
  refine gIload X4 hx (hb hby at_78) rfl ?_
  refine gIf X4 hx 92 (hb hby at_80) (by decide) (by decide) (fun hT => ?_) (fun hT => ?_)
  · have hc11 := o_neT hT
    show Go _ _ _ _ _ _ _ T4 (mkF m 92 #[.val (.int p0), .val (.int p1), .val (.int p2), .val (.int p3), .val (.int p4), .val (.int p5), .val (.int sz), .val (.ref b1), .val (.int sel), .val (.int bit), .val (.int p1), .val (.int p2), .val (.int p3), .val (.int p4), .unset, .unset] [])
    refine gIload X4 hx (hb hby at_92) rfl ?_
    refine gIconst X4 hx (1 : Int32) (hb hby at_94) rfl ?_
    refine gIcmp X4 hx 107 (hb hby at_95) (by decide) (by decide) (fun hT => ?_) (fun hT => ?_)
    · have hc12 := o_neT hT
      show Go _ _ _ _ _ _ _ T4 (mkF m 107 #[.val (.int p0), .val (.int p1), .val (.int p2), .val (.int p3), .val (.int p4), .val (.int p5), .val (.int sz), .val (.ref b1), .val (.int sel), .val (.int bit), .val (.int p1), .val (.int p2), .val (.int p3), .val (.int p4), .unset, .unset] [])
      refine gIload X4 hx (hb hby at_107) rfl ?_
      refine gIconst X4 hx (2 : Int32) (hb hby at_109) rfl ?_
      refine gIcmp X4 hx 122 (hb hby at_110) (by decide) (by decide) (fun hT => ?_) (fun hT => ?_)
      · have hc13 := o_neT hT
        show Go _ _ _ _ _ _ _ T4 (mkF m 122 #[.val (.int p0), .val (.int p1), .val (.int p2), .val (.int p3), .val (.int p4), .val (.int p5), .val (.int sz), .val (.ref b1), .val (.int sel), .val (.int bit), .val (.int p1), .val (.int p2), .val (.int p3), .val (.int p4), .unset, .unset] [])
        refine gIload X4 hx (hb hby at_122) rfl ?_
        refine gIconst X4 hx (3 : Int32) (hb hby at_124) rfl ?_
        refine gIcmp X4 hx 135 (hb hby at_125) (by decide) (by decide) (fun hT => ?_) (fun hT => ?_)
        · have hc14 := o_neT hT
          show Go _ _ _ _ _ _ _ T4 (mkF m 135 #[.val (.int p0), .val (.int p1), .val (.int p2), .val (.int p3), .val (.int p4), .val (.int p5), .val (.int sz), .val (.ref b1), .val (.int sel), .val (.int bit), .val (.int p1), .val (.int p2), .val (.int p3), .val (.int p4), .unset, .unset] [])
          exact B135 p1 p2 p3 p4 (Or.inl ⟨own_four hs0 hc11 hc12 hc13 hc14, rfl, rfl, rfl, rfl⟩)
        · have hc14 := o_neF hT
          show Go _ _ _ _ _ _ _ T4 (mkF m 128 #[.val (.int p0), .val (.int p1), .val (.int p2), .val (.int p3), .val (.int p4), .val (.int p5), .val (.int sz), .val (.ref b1), .val (.int sel), .val (.int bit), .val (.int p1), .val (.int p2), .val (.int p3), .val (.int p4), .unset, .unset] [])
          refine gIload X4 hx (hb hby at_128) rfl ?_
          refine gIload X4 hx (hb hby at_130) rfl ?_
          refine gIxor X4 hx (hb hby at_132) ?_
          refine gIstore X4 hx #[.val (.int p0), .val (.int p1), .val (.int p2), .val (.int p3), .val (.int p4), .val (.int p5), .val (.int sz), .val (.ref b1), .val (.int sel), .val (.int bit), .val (.int p1), .val (.int p2), .val (.int p3), .val (.int (p4 ^^^ bit)), .unset, .unset] (hb hby at_133) rfl ?_
          exact B135 p1 p2 p3 (p4 ^^^ bit) (Or.inr ⟨by rw [hc14]; decide, fun q => own_xor hb0 q.2.2.2⟩)
      · have hc13 := o_neF hT
        show Go _ _ _ _ _ _ _ T4 (mkF m 113 #[.val (.int p0), .val (.int p1), .val (.int p2), .val (.int p3), .val (.int p4), .val (.int p5), .val (.int sz), .val (.ref b1), .val (.int sel), .val (.int bit), .val (.int p1), .val (.int p2), .val (.int p3), .val (.int p4), .unset, .unset] [])
        refine gIloadN X4 hx (hb hby at_113) rfl ?_
        refine gIload X4 hx (hb hby at_114) rfl ?_
        refine gIxor X4 hx (hb hby at_116) ?_
        refine gIstore X4 hx #[.val (.int p0), .val (.int p1), .val (.int p2), .val (.int p3), .val (.int p4), .val (.int p5), .val (.int sz), .val (.ref b1), .val (.int sel), .val (.int bit), .val (.int p1), .val (.int p2), .val (.int (p3 ^^^ bit)), .val (.int p4), .unset, .unset] (hb hby at_117) rfl ?_
        refine gGoto X4 hx 135 (hb hby at_119) (by decide) (by decide) ?_
        exact B135 p1 p2 (p3 ^^^ bit) p4 (Or.inr ⟨by rw [hc13]; decide, fun q => own_xor hb0 q.2.2.1⟩)
    · have hc12 := o_neF hT
      show Go _ _ _ _ _ _ _ T4 (mkF m 98 #[.val (.int p0), .val (.int p1), .val (.int p2), .val (.int p3), .val (.int p4), .val (.int p5), .val (.int sz), .val (.ref b1), .val (.int sel), .val (.int bit), .val (.int p1), .val (.int p2), .val (.int p3), .val (.int p4), .unset, .unset] [])
      refine gIloadN X4 hx (hb hby at_98) rfl ?_
      refine gIload X4 hx (hb hby at_99) rfl ?_
      refine gIxor X4 hx (hb hby at_101) ?_
      refine gIstore X4 hx #[.val (.int p0), .val (.int p1), .val (.int p2), .val (.int p3), .val (.int p4), .val (.int p5), .val (.int sz), .val (.ref b1), .val (.int sel), .val (.int bit), .val (.int p1), .val (.int (p2 ^^^ bit)), .val (.int p3), .val (.int p4), .unset, .unset] (hb hby at_102) rfl ?_
      refine gGoto X4 hx 135 (hb hby at_104) (by decide) (by decide) ?_
      exact B135 p1 (p2 ^^^ bit) p3 p4 (Or.inr ⟨by rw [hc12]; decide, fun q => own_xor hb0 q.2.1⟩)
  · have hc11 := o_neF hT
    show Go _ _ _ _ _ _ _ T4 (mkF m 83 #[.val (.int p0), .val (.int p1), .val (.int p2), .val (.int p3), .val (.int p4), .val (.int p5), .val (.int sz), .val (.ref b1), .val (.int sel), .val (.int bit), .val (.int p1), .val (.int p2), .val (.int p3), .val (.int p4), .unset, .unset] [])
    refine gIloadN X4 hx (hb hby at_83) rfl ?_
    refine gIload X4 hx (hb hby at_84) rfl ?_
    refine gIxor X4 hx (hb hby at_86) ?_
    refine gIstore X4 hx #[.val (.int p0), .val (.int p1), .val (.int p2), .val (.int p3), .val (.int p4), .val (.int p5), .val (.int sz), .val (.ref b1), .val (.int sel), .val (.int bit), .val (.int (p1 ^^^ bit)), .val (.int p2), .val (.int p3), .val (.int p4), .unset, .unset] (hb hby at_87) rfl ?_
    refine gGoto X4 hx 135 (hb hby at_89) (by decide) (by decide) ?_
    exact B135 (p1 ^^^ bit) p2 p3 p4 (Or.inr ⟨by rw [hc11]; decide, fun q => own_xor hb0 q.1⟩)
set_option maxRecDepth 65536 in
set_option maxHeartbeats 40000000 in
theorem comes_1 {Post : Tables → Env → Array Value → State → Outcome → State → Prop} (hpost : ∀ tb e args s v u, (limb_1_1.after args s (.returned v) u = true ∧ limb_1_2.after args s (.returned v) u = true ∧ True) → FrameEnd s (.returned v) u (Jvm.fieldLocs frame_1_writes args s ++ Jvm.arrayLocs frame_1_arrays args s ++ Jvm.staticLocs frame_1_statics s) 24 192 → Post tb e args s (.returned v) u) :
    ArmFor flags0 classFile x code maxLocals ret World_1 tables_1 room_1 Calls_1 rest_1 Pre_1 Post := by
  intro l hfl _ _ p e ha hc hk s m args below hf hA hF happ hP
  obtain ⟨hcalls, hrest, hpre⟩ := hP
  obtain ⟨-, -, -, hnamed, -, -, -, hat⟩ := (Spec.applies_iff hf).mp happ
  obtain ⟨hg, hn⟩ := and_e (Cond.before_iff.mp (show (Jvm.Cond.and given_1 narrow_1).before args s = true from hpre))
  obtain ⟨h1, hr0⟩ := and_e hg
  obtain ⟨hv0, hr1⟩ := and_e hr0
  obtain ⟨hv1, hr2⟩ := and_e hr1
  obtain ⟨hv2, hr3⟩ := and_e hr2
  obtain ⟨hv3, hr4⟩ := and_e hr3
  obtain ⟨hv4, hr5⟩ := and_e hr4
  have hv5 := hr5
  obtain ⟨w0, w1, w2, w3, w4, w5, rfl⟩ : ∃ w0 w1 w2 w3 w4 w5 : Value, args = #[w0, w1, w2, w3, w4, w5] := by
    have hs : args.size = 6 := by simpa [Cond.value, given_1] using h1
    obtain ⟨L⟩ := args
    match L, hs with
    | [w0, w1, w2, w3, w4, w5], _ => exact ⟨w0, w1, w2, w3, w4, w5, rfl⟩
  have hw := fun d (hd : d ∈ tables_1) => atoms_spec (ws := Jvm.Cond.code x code maxLocals ret :: tables_1) hat d (List.mem_cons_of_mem _ hd)
  obtain ⟨i0, ei0⟩ := is_v hv0
  obtain rfl : w0 = (.int i0) := Option.some.inj ei0
  obtain ⟨i1, ei1⟩ := is_v hv1
  obtain rfl : w1 = (.int i1) := Option.some.inj ei1
  obtain ⟨i2, ei2⟩ := is_v hv2
  obtain rfl : w2 = (.int i2) := Option.some.inj ei2
  obtain ⟨i3, ei3⟩ := is_v hv3
  obtain rfl : w3 = (.int i3) := Option.some.inj ei3
  obtain ⟨i4, ei4⟩ := is_v hv4
  obtain rfl : w4 = (.int i4) := Option.some.inj ei4
  obtain ⟨i5, ei5⟩ := is_v hv5
  obtain rfl : w5 = (.int i5) := Option.some.inj ei5
  obtain ⟨n, o, h1, h2, h3, _, L, rfl, ⟨rfl, N⟩, hq⟩ := own_rm7 l s _ hw i0 i1 i2 i3 i4 i5 s.heap s.heap.size (Nat.le_refl _) p e ha hc hk s m _ below hf ((Spec.applies_iff_loose hf).mp happ).1 ⟨rfl, State.Warmed39.refl s, rfl⟩ trivial
  refine ⟨n, _, h1, h2, h3, hpost _ _ _ _ _ _ ⟨Cond.after_iff.mpr rfl, Cond.after_iff.mpr (eq_i res_at (Term.int_eval (1)) rfl), trivial⟩ ⟨hq.1, hq.2.1, (hq.2.2.sift fun y hy => Or.inr (N y hy)).mono (by decide) (by decide)⟩⟩
theorem main_1_1 : Claimed_1_1 := comes_1 fun _ _ _ _ _ _ h hF => ⟨h.1, hF⟩
theorem main_1_2 : Claimed_1_2 := comes_1 fun _ _ _ _ _ _ h hF => ⟨h.2.1, hF⟩
end Jvm.Pilot.@@N@@
namespace Jvm.Pilot.@@N@@
open Jvm Jvm.ClassFile Sem Op Lib Jvm.Free Jvm.Stand Jvm.Pilot.@@N@@.Jvm.D
/-! MADE BY PROGRAM (witnessworld.py) out of the Statement's table words and the real class files: 10 classes; the members and pool entries that the words name. The judged class is class 1, her method 1. -/
namespace start1
open Jvm.ClassFile
def u (s : String) : CpInfo := .utf8 (stringToUtf16 s)
/-- a pool by its gaps: so many unusable entries, then the entry; so many at the end -/
def gap : Nat → List CpInfo → List CpInfo
  | 0, r => r
  | n + 1, r => .unusable :: gap n r
def poolList (es : List (Nat × CpInfo)) (last : Nat) : List CpInfo := es.foldr (fun e r => gap e.1 (e.2 :: r)) (gap last [])
def pool (es : List (Nat × CpInfo)) (last : Nat) : Array CpInfo := ⟨poolList es last⟩
def fileOf (pool : Array CpInfo) (this : Nat) (attrs : Array Attribute := #[]) (ms : Array MethodInfo := #[]) (fl : Nat := 33) (sup : Nat := 0) (ifs : Array Nat := #[]) (fds : Array FieldInfo := #[]) : ClassFile where
  minorVersion := 0
  majorVersion := 65
  constantPool := pool
  accessFlags := fl
  thisClass := this
  superClass := sup
  interfaces := ifs
  fields := fds
  methods := ms
  attributes := attrs
def plain (name : String) (sup : Option ClassId) : Class where
  name := name
  kind := .ordinary
  loader := none
  accessFlags := 33
  super := sup
  interfaces := #[]
  cf := none
  fields := #[]
  methods := #[]
  instanceTypes := #[]
  staticTypes := #[]
  resolved := #[]
  callSites := []
  init := .initialized
  statics := none
  mirror := none

def pool0 : Array CpInfo := pool [(5, u "<init>"), (0, u "()V"), (1, .class_ 10), (1, u "java/lang/Object")] 113

def k0c0 : Code := { maxStack := 0, maxLocals := 1, code := object_method_1_code, exceptionTable := #[], attributes := #[] }
def k0m0 : Method := { name := "<init>", desc := "()V", sig := { parameters := [], returnType := none }, accessFlags := 1, code := some k0c0 }
/-- java/lang/Object -/
def k0 : Class := { plain "java/lang/Object" none with
  accessFlags := 33
  interfaces := #[]
  cf := some (fileOf pool0 8 #[] #[{ accessFlags := 1, nameIndex := 5, descriptorIndex := 6, attributes := #[] }] 33 0 #[] #[])
  fields := #[]
  methods := #[k0m0]
  instanceTypes := #[]
  staticTypes := #[]
  resolved := Array.replicate 124 none
  statics := none }

def pool1 : Array CpInfo := pool [(2, .class_ 4), (1, u "java/lang/Object"), (0, u "<init>"), (0, u "()V"), (0, .class_ 8), (0, u "com/example/wee_check/weecheck/bdd/OperationCache"), (0, .methodref 7 10), (0, .nameAndType 5 11), (0, u "(I)V"), (0, .methodref 7 13), (0, .nameAndType 14 15), (0, u "store"), (0, u "(IIIII)V"), (0, .methodref 7 17), (0, .nameAndType 18 19), (0, u "lookup"), (0, u "(IIII)I"), (0, .class_ 21), (0, u "com/example/wee_check/weecheck/bdd/OperationCacheStorePinLaw"), (2, u "law"), (0, u "(IIIIII)Z")] 3

def k1m0 : Method := { name := "<init>", desc := "()V", sig := { parameters := [], returnType := none }, accessFlags := 1, code := none }
def k1c1 : Code := { maxStack := 6, maxLocals := 16, code := code, exceptionTable := #[], attributes := #[] }
def k1m1 : Method := { name := "law", desc := "(IIIIII)Z", sig := { parameters := [.int, .int, .int, .int, .int, .int], returnType := some .boolean }, accessFlags := 9, code := some k1c1 }
/-- com/example/wee_check/weecheck/bdd/OperationCacheStorePinLaw -/
def k1 : Class := { plain "com/example/wee_check/weecheck/bdd/OperationCacheStorePinLaw" (some 0) with
  accessFlags := 49
  interfaces := #[]
  cf := some (fileOf pool1 20 #[] #[{ accessFlags := 1, nameIndex := 5, descriptorIndex := 6, attributes := #[] }, { accessFlags := 9, nameIndex := 24, descriptorIndex := 25, attributes := #[] }] 49 2 #[] #[])
  fields := #[]
  methods := #[k1m0, k1m1]
  instanceTypes := #[]
  staticTypes := #[]
  resolved := Array.replicate 29 none
  statics := none }

def pool2 : Array CpInfo := pool [(1, .methodref 2 3), (0, .class_ 4), (0, .nameAndType 5 6), (0, u "java/lang/Object"), (0, u "<init>"), (0, u "()V"), (0, .methodref 8 9), (0, .class_ 10), (0, .nameAndType 11 12), (0, u "com/example/wee_check/weecheck/bdd/OperationCache"), (0, u "resize"), (0, u "(I)V"), (0, .fieldref 8 14), (0, .nameAndType 15 16), (0, u "operations"), (0, u "[I"), (0, .fieldref 8 18), (0, .nameAndType 19 16), (0, u "firsts"), (0, .fieldref 8 21), (0, .nameAndType 22 16), (0, u "seconds"), (0, .fieldref 8 24), (0, .nameAndType 25 16), (0, u "thirds"), (0, .fieldref 8 27), (0, .nameAndType 28 16), (0, u "results"), (0, .fieldref 8 30), (0, .nameAndType 31 32), (0, u "mask"), (0, u "I"), (0, .methodref 8 34), (0, .nameAndType 35 6), (0, u "clear"), (0, .methodref 37 38), (0, .class_ 39), (0, .nameAndType 40 41), (0, u "java/util/Arrays"), (0, u "fill"), (0, u "([II)V"), (0, .methodref 8 43), (0, .nameAndType 44 45), (0, u "slot"), (0, u "(IIII)I"), (0, .integer 668265263), (0, .integer 2654435761), (0, .integer 2246822519), (0, .integer 3266489917), (0, u "EMPTY"), (6, u "lookup"), (1, u "store"), (0, u "(IIIII)V")] 2

def k2c0 : Code := { maxStack := 2, maxLocals := 2, code := prog_7_method_1_code, exceptionTable := #[], attributes := #[] }
def k2m0 : Method := { name := "<init>", desc := "(I)V", sig := { parameters := [.int], returnType := none }, accessFlags := 0, code := some k2c0 }
def k2c1 : Code := { maxStack := 3, maxLocals := 2, code := prog_7_method_2_code, exceptionTable := #[], attributes := #[] }
def k2m1 : Method := { name := "resize", desc := "(I)V", sig := { parameters := [.int], returnType := none }, accessFlags := 0, code := some k2c1 }
def k2c2 : Code := { maxStack := 2, maxLocals := 1, code := prog_7_method_4_code, exceptionTable := #[], attributes := #[] }
def k2m2 : Method := { name := "clear", desc := "()V", sig := { parameters := [], returnType := none }, accessFlags := 0, code := some k2c2 }
def k2c3 : Code := { maxStack := 5, maxLocals := 6, code := prog_7_method_5_code, exceptionTable := #[], attributes := #[] }
def k2m3 : Method := { name := "lookup", desc := "(IIII)I", sig := { parameters := [.int, .int, .int, .int], returnType := some .int }, accessFlags := 0, code := some k2c3 }
def k2c4 : Code := { maxStack := 5, maxLocals := 7, code := prog_7_method_6_code, exceptionTable := #[], attributes := #[] }
def k2m4 : Method := { name := "store", desc := "(IIIII)V", sig := { parameters := [.int, .int, .int, .int, .int], returnType := none }, accessFlags := 0, code := some k2c4 }
def k2c5 : Code := { maxStack := 3, maxLocals := 6, code := prog_7_method_7_code, exceptionTable := #[], attributes := #[] }
def k2m5 : Method := { name := "slot", desc := "(IIII)I", sig := { parameters := [.int, .int, .int, .int], returnType := some .int }, accessFlags := 2, code := some k2c5 }
/-- com/example/wee_check/weecheck/bdd/OperationCache -/
def k2 : Class := { plain "com/example/wee_check/weecheck/bdd/OperationCache" (some 0) with
  accessFlags := 48
  interfaces := #[]
  cf := some (fileOf pool2 8 #[] #[{ accessFlags := 0, nameIndex := 5, descriptorIndex := 12, attributes := #[] }, { accessFlags := 0, nameIndex := 11, descriptorIndex := 12, attributes := #[] }, { accessFlags := 0, nameIndex := 35, descriptorIndex := 6, attributes := #[] }, { accessFlags := 0, nameIndex := 57, descriptorIndex := 45, attributes := #[] }, { accessFlags := 0, nameIndex := 59, descriptorIndex := 60, attributes := #[] }, { accessFlags := 2, nameIndex := 44, descriptorIndex := 45, attributes := #[] }] 48 2 #[] #[{ accessFlags := 26, nameIndex := 50, descriptorIndex := 32, attributes := #[] }, { accessFlags := 2, nameIndex := 15, descriptorIndex := 16, attributes := #[] }, { accessFlags := 2, nameIndex := 19, descriptorIndex := 16, attributes := #[] }, { accessFlags := 2, nameIndex := 22, descriptorIndex := 16, attributes := #[] }, { accessFlags := 2, nameIndex := 25, descriptorIndex := 16, attributes := #[] }, { accessFlags := 2, nameIndex := 28, descriptorIndex := 16, attributes := #[] }, { accessFlags := 2, nameIndex := 31, descriptorIndex := 32, attributes := #[] }])
  fields := #[{ name := "EMPTY", type := .int, accessFlags := 26, slot := 0, constantValue := 0 }, { name := "operations", type := (.array .int), accessFlags := 2, slot := 0, constantValue := 0 }, { name := "firsts", type := (.array .int), accessFlags := 2, slot := 1, constantValue := 0 }, { name := "seconds", type := (.array .int), accessFlags := 2, slot := 2, constantValue := 0 }, { name := "thirds", type := (.array .int), accessFlags := 2, slot := 3, constantValue := 0 }, { name := "results", type := (.array .int), accessFlags := 2, slot := 4, constantValue := 0 }, { name := "mask", type := .int, accessFlags := 2, slot := 5, constantValue := 0 }]
  methods := #[k2m0, k2m1, k2m2, k2m3, k2m4, k2m5]
  instanceTypes := #[(.array .int), (.array .int), (.array .int), (.array .int), (.array .int), .int]
  staticTypes := #[.int]
  resolved := Array.replicate 63 none
  statics := none }

def pool3 : Array CpInfo := pool [(2, .class_ 4), (1, u "java/lang/Object"), (0, u "<init>"), (0, u "()V"), (7, .class_ 16), (1, u "java/util/Arrays"), (57, .class_ 76), (1, u "java/util/Arrays$NaturalOrder"), (36, .class_ 115), (1, u "java/util/Arrays$LegacyMergeSort"), (1, u "Z"), (257, .class_ 376), (0, u "java/util/Arrays$ArrayList"), (68, u "$assertionsDisabled"), (269, u "MIN_ARRAY_SORT_GRAN"), (0, u "I"), (2, u "INSERTIONSORT_THRESHOLD"), (120, u "fill"), (4, u "([II)V"), (129, .class_ 976), (0, u "java/util/Arrays$ArrayItr")] 52

def k3m0 : Method := { name := "<init>", desc := "()V", sig := { parameters := [], returnType := none }, accessFlags := 2, code := none }
def k3c1 : Code := { maxStack := 3, maxLocals := 4, code := jdk_65_method_103_code, exceptionTable := #[], attributes := #[] }
def k3m1 : Method := { name := "fill", desc := "([II)V", sig := { parameters := [(.array .int), .int], returnType := none }, accessFlags := 9, code := some k3c1 }
/-- java/util/Arrays -/
def k3 : Class := { plain "java/util/Arrays" (some 0) with
  accessFlags := 49
  interfaces := #[]
  cf := some (fileOf pool3 14 #[.nestMembers #[975, 375, 113, 74]] #[{ accessFlags := 2, nameIndex := 5, descriptorIndex := 6, attributes := #[] }, { accessFlags := 9, nameIndex := 840, descriptorIndex := 845, attributes := #[] }] 49 2 #[] #[{ accessFlags := 26, nameIndex := 715, descriptorIndex := 716, attributes := #[] }, { accessFlags := 26, nameIndex := 719, descriptorIndex := 716, attributes := #[] }, { accessFlags := 4120, nameIndex := 445, descriptorIndex := 117, attributes := #[] }])
  fields := #[{ name := "MIN_ARRAY_SORT_GRAN", type := .int, accessFlags := 26, slot := 0, constantValue := 0 }, { name := "INSERTIONSORT_THRESHOLD", type := .int, accessFlags := 26, slot := 1, constantValue := 0 }, { name := "$assertionsDisabled", type := .boolean, accessFlags := 4120, slot := 2, constantValue := 0 }]
  methods := #[k3m0, k3m1]
  instanceTypes := #[]
  staticTypes := #[.int, .int, .boolean]
  resolved := Array.replicate 1029 none
  statics := none }

def pool4 : Array CpInfo := pool [(1, u "java/lang/Cloneable"), (0, .class_ 1), (0, u "java/lang/Object"), (0, .class_ 3)] 3

/-- java/lang/Cloneable -/
def k4 : Class := { plain "java/lang/Cloneable" (some 0) with
  accessFlags := 1537
  interfaces := #[]
  cf := some (fileOf pool4 2 #[] #[] 1537 4 #[] #[])
  fields := #[]
  methods := #[]
  instanceTypes := #[]
  staticTypes := #[]
  resolved := Array.replicate 8 none
  statics := none }

def pool5 : Array CpInfo := pool [(1, u "java/io/Serializable"), (0, .class_ 1), (0, u "java/lang/Object"), (0, .class_ 3)] 3

/-- java/io/Serializable -/
def k5 : Class := { plain "java/io/Serializable" (some 0) with
  accessFlags := 1537
  interfaces := #[]
  cf := some (fileOf pool5 2 #[] #[] 1537 4 #[] #[])
  fields := #[]
  methods := #[]
  instanceTypes := #[]
  staticTypes := #[]
  resolved := Array.replicate 8 none
  statics := none }

/-- the primitive byte -/
def k6 : Class := { plain "byte" none with kind := .primitive 'B', accessFlags := 0x411 }
/-- [B -/
def k7 : Class := { plain "[B" (some 0) with kind := .array 6 .byte, interfaces := #[4, 5], accessFlags := 1041 }

/-- the primitive int -/
def k8 : Class := { plain "int" none with kind := .primitive 'I', accessFlags := 0x411 }
/-- [I -/
def k9 : Class := { plain "[I" (some 0) with kind := .array 8 .int, interfaces := #[4, 5], accessFlags := 1041 }

def heap : Heap := #[]
def classes : Array Class := #[k0, k1, k2, k3, k4, k5, k6, k7, k8, k9]
def interned : List (Array UInt16 × Addr) := []
def slotsUsed : Nat := 0
def theMethod : MethodId := ⟨1, 1⟩
def args0 : Array Value := #[.int 5, .int 1, .int 2, .int 3, .int 4, .int 6]
def aboutOver (below : List Frame) : State where
  vm := { classes := classes, interned := interned.toArray }
  heap := heap
  slotsUsed := slotsUsed
  threads := #[{ frames := .invoking theMethod args0 :: below }]
def below0 : List Frame := [.native { method := ⟨0, 0⟩, args := #[] }]
def about1 : State := aboutOver below0
def p0 : Program := .bare "" "" ""
def e0 : Env := launch0.env 0 0 0
theorem w_frames : about1.frames = Frame.invoking theMethod args0 :: below0 := rfl
set_option maxRecDepth 65536 in
theorem w_args : argsFit about1.vm theMethod args0 = true := by decide +kernel
set_option maxRecDepth 65536 in
theorem w_heap : heapFits about1 = true := by decide +kernel
set_option maxRecDepth 65536 in
theorem w_runnable : about1.curStatus? = some .runnable := by decide +kernel
set_option maxRecDepth 65536 in
theorem w_alone : about1.alone = true := by decide +kernel
set_option maxRecDepth 65536 in
theorem w_named : about1.methodNamed? x = some theMethod := by decide +kernel
set_option maxRecDepth 65536 in
theorem w_hears : about1.hears theMethod below0 = true := by decide +kernel
set_option maxRecDepth 65536 in
theorem w_ripe : about1.ripe theMethod args0 below0 = true := by decide +kernel
theorem w_running : about1.status = .running := rfl
set_option maxRecDepth 65536 in
theorem w_room : about1.hasRoom e0.platform room_1 = true :=
  launch0.hasRoom_least _ room_1 (by decide +kernel) (by decide +kernel) (by decide +kernel) (by decide +kernel) (by decide +kernel) (by decide +kernel)
theorem allAtoms_all (ts : List Jvm.Cond) (a : Array Jvm.Value) (st : Jvm.State) : (allAtoms ts).before a st = ts.all (fun c => c.before a st) := by
  induction ts with
  | nil => rfl
  | cons c t ih =>
    show (Jvm.Cond.and c (allAtoms t)).before a st = _
    rw [Jvm.Cond.before_and, ih, List.all_cons]
def words1 : List Jvm.Cond := Jvm.Cond.code x code maxLocals ret :: tables_1
/-- a 'code' word, met by the world's own term for the bytes: nothing is compared byte by byte -/
theorem code_word {y : MethodName} {bytes : ByteArray} {mx : Nat} {rt : Option FieldType} {a : Array Value} {s : State} {m : MethodId} {meth : Method} {c : Code} (h1 : s.methodNamed? y = some m) (h2 : s.vm.method? m = some meth) (h3 : meth.code = some c) (h4 : c.code = bytes)
    (h5 : (c.maxLocals == mx && c.exceptionTable.isEmpty && decide (c.maxStack ≤ mostOperands) && decide (meth.sig.returnType = rt) && !meth.locks && decide (parseMethodDescriptor y.desc = some meth.sig)) = true) : (Jvm.Cond.code y bytes mx rt).before a s = true := by
  simp only [Bool.and_eq_true, beq_iff_eq, Bool.not_eq_true', decide_eq_true_eq] at h5
  obtain ⟨⟨⟨⟨⟨g1, g2⟩, g3⟩, g4⟩, g5⟩, g6⟩ := h5
  simp [Cond.before, Cond.holds, Cond.value, h1, h2, h3, h4, g1, g2, g3, g4, g5, g6]
def isCode : Jvm.Cond → Bool
  | .code _ _ _ _ => true
  | _ => false
theorem all_split {L : List Jvm.Cond} {P : Jvm.Cond → Bool} (h1 : L.all (fun c => isCode c || P c) = true) (h2 : ∀ c ∈ L.filter isCode, P c = true) : L.all P = true := by
  refine List.all_eq_true.mpr fun c hc => ?_
  have h := List.all_eq_true.mp h1 c hc
  rcases Bool.eq_false_or_eq_true (isCode c) with hi | hi
  · exact h2 c (List.mem_filter.mpr ⟨hc, hi⟩)
  · simpa [hi] using h
set_option maxRecDepth 65536 in
theorem w_c0 : (Jvm.Cond.code x code maxLocals ret).before args0 about1 = true := code_word (m := ⟨1, 1⟩) (meth := k1m1) (c := k1c1) (by decide +kernel) rfl rfl rfl (by decide +kernel)
set_option maxRecDepth 65536 in
theorem w_c1 : (Jvm.Cond.code ({ cls := "com/example/wee_check/weecheck/bdd/OperationCache", name := "<init>", desc := "(I)V" } : Jvm.MethodName) prog_7_method_1_code (2 : Nat) (Option.none : Option Jvm.ClassFile.FieldType)).before args0 about1 = true := code_word (m := ⟨2, 0⟩) (meth := k2m0) (c := k2c0) (by decide +kernel) rfl rfl rfl (by decide +kernel)
set_option maxRecDepth 65536 in
theorem w_c2 : (Jvm.Cond.code ({ cls := "java/lang/Object", name := "<init>", desc := "()V" } : Jvm.MethodName) object_method_1_code (1 : Nat) (Option.none : Option Jvm.ClassFile.FieldType)).before args0 about1 = true := code_word (m := ⟨0, 0⟩) (meth := k0m0) (c := k0c0) (by decide +kernel) rfl rfl rfl (by decide +kernel)
set_option maxRecDepth 65536 in
theorem w_c3 : (Jvm.Cond.code ({ cls := "com/example/wee_check/weecheck/bdd/OperationCache", name := "resize", desc := "(I)V" } : Jvm.MethodName) prog_7_method_2_code (2 : Nat) (Option.none : Option Jvm.ClassFile.FieldType)).before args0 about1 = true := code_word (m := ⟨2, 1⟩) (meth := k2m1) (c := k2c1) (by decide +kernel) rfl rfl rfl (by decide +kernel)
set_option maxRecDepth 65536 in
theorem w_c4 : (Jvm.Cond.code ({ cls := "com/example/wee_check/weecheck/bdd/OperationCache", name := "clear", desc := "()V" } : Jvm.MethodName) prog_7_method_4_code (1 : Nat) (Option.none : Option Jvm.ClassFile.FieldType)).before args0 about1 = true := code_word (m := ⟨2, 2⟩) (meth := k2m2) (c := k2c2) (by decide +kernel) rfl rfl rfl (by decide +kernel)
set_option maxRecDepth 65536 in
theorem w_c5 : (Jvm.Cond.code ({ cls := "java/util/Arrays", name := "fill", desc := "([II)V" } : Jvm.MethodName) jdk_65_method_103_code (4 : Nat) (Option.none : Option Jvm.ClassFile.FieldType)).before args0 about1 = true := code_word (m := ⟨3, 1⟩) (meth := k3m1) (c := k3c1) (by decide +kernel) rfl rfl rfl (by decide +kernel)
set_option maxRecDepth 65536 in
theorem w_c6 : (Jvm.Cond.code ({ cls := "com/example/wee_check/weecheck/bdd/OperationCache", name := "store", desc := "(IIIII)V" } : Jvm.MethodName) prog_7_method_6_code (7 : Nat) (Option.none : Option Jvm.ClassFile.FieldType)).before args0 about1 = true := code_word (m := ⟨2, 4⟩) (meth := k2m4) (c := k2c4) (by decide +kernel) rfl rfl rfl (by decide +kernel)
set_option maxRecDepth 65536 in
theorem w_c7 : (Jvm.Cond.code ({ cls := "com/example/wee_check/weecheck/bdd/OperationCache", name := "slot", desc := "(IIII)I" } : Jvm.MethodName) prog_7_method_7_code (6 : Nat) (Option.some Jvm.ClassFile.FieldType.int)).before args0 about1 = true := code_word (m := ⟨2, 5⟩) (meth := k2m5) (c := k2c5) (by decide +kernel) rfl rfl rfl (by decide +kernel)
set_option maxRecDepth 65536 in
theorem w_c8 : (Jvm.Cond.code ({ cls := "com/example/wee_check/weecheck/bdd/OperationCache", name := "lookup", desc := "(IIII)I" } : Jvm.MethodName) prog_7_method_5_code (6 : Nat) (Option.some Jvm.ClassFile.FieldType.int)).before args0 about1 = true := code_word (m := ⟨2, 3⟩) (meth := k2m3) (c := k2c3) (by decide +kernel) rfl rfl rfl (by decide +kernel)
def codes1 : List Jvm.Cond := [Jvm.Cond.code x code maxLocals ret, Jvm.Cond.code ({ cls := "com/example/wee_check/weecheck/bdd/OperationCache", name := "<init>", desc := "(I)V" } : Jvm.MethodName) prog_7_method_1_code (2 : Nat) (Option.none : Option Jvm.ClassFile.FieldType), Jvm.Cond.code ({ cls := "java/lang/Object", name := "<init>", desc := "()V" } : Jvm.MethodName) object_method_1_code (1 : Nat) (Option.none : Option Jvm.ClassFile.FieldType), Jvm.Cond.code ({ cls := "com/example/wee_check/weecheck/bdd/OperationCache", name := "resize", desc := "(I)V" } : Jvm.MethodName) prog_7_method_2_code (2 : Nat) (Option.none : Option Jvm.ClassFile.FieldType), Jvm.Cond.code ({ cls := "com/example/wee_check/weecheck/bdd/OperationCache", name := "clear", desc := "()V" } : Jvm.MethodName) prog_7_method_4_code (1 : Nat) (Option.none : Option Jvm.ClassFile.FieldType), Jvm.Cond.code ({ cls := "java/util/Arrays", name := "fill", desc := "([II)V" } : Jvm.MethodName) jdk_65_method_103_code (4 : Nat) (Option.none : Option Jvm.ClassFile.FieldType), Jvm.Cond.code ({ cls := "com/example/wee_check/weecheck/bdd/OperationCache", name := "store", desc := "(IIIII)V" } : Jvm.MethodName) prog_7_method_6_code (7 : Nat) (Option.none : Option Jvm.ClassFile.FieldType), Jvm.Cond.code ({ cls := "com/example/wee_check/weecheck/bdd/OperationCache", name := "slot", desc := "(IIII)I" } : Jvm.MethodName) prog_7_method_7_code (6 : Nat) (Option.some Jvm.ClassFile.FieldType.int), Jvm.Cond.code ({ cls := "com/example/wee_check/weecheck/bdd/OperationCache", name := "lookup", desc := "(IIII)I" } : Jvm.MethodName) prog_7_method_5_code (6 : Nat) (Option.some Jvm.ClassFile.FieldType.int)]
set_option maxRecDepth 65536 in
theorem codes_eq : words1.filter isCode = codes1 := rfl
theorem w_codes : ∀ c ∈ words1.filter isCode, c.before args0 about1 = true := by
  rw [codes_eq]
  intro c hc
  simp only [codes1, List.mem_cons, List.not_mem_nil, or_false] at hc
  rcases hc with rfl | rfl | rfl | rfl | rfl | rfl | rfl | rfl | rfl
  · exact w_c0
  · exact w_c1
  · exact w_c2
  · exact w_c3
  · exact w_c4
  · exact w_c5
  · exact w_c6
  · exact w_c7
  · exact w_c8
set_option maxRecDepth 65536 in
theorem w_t1 : (words1.take 24).all (fun c => isCode c || c.before args0 about1) = true := by decide +kernel
set_option maxRecDepth 65536 in
theorem w_t2 : ((words1.drop 24).take 24).all (fun c => isCode c || c.before args0 about1) = true := by decide +kernel
set_option maxRecDepth 65536 in
theorem w_t3 : ((words1.drop 24).drop 24).all (fun c => isCode c || c.before args0 about1) = true := by decide +kernel
theorem w_tables : (allAtoms (Jvm.Cond.code x code maxLocals ret :: tables_1)).before args0 about1 = true := by
  rw [allAtoms_all]
  show words1.all (fun c => c.before args0 about1) = true
  refine all_split ?_ w_codes
  rw [← List.take_append_drop 24 words1, List.all_append, w_t1, ← List.take_append_drop 24 (words1.drop 24), List.all_append, w_t2, w_t3]
  rfl
set_option maxRecDepth 65536 in
theorem w_case : (Jvm.Cond.and given_1 narrow_1).before args0 about1 = true := by decide +kernel
theorem w_applies : (headSpec (Jvm.Cond.code x code maxLocals ret :: tables_1) room_1).applies x e0.platform about1 = true :=
  (Spec.applies_iff w_frames).mpr ⟨w_running, w_runnable, w_alone, w_named, w_hears, w_ripe, w_room, w_tables⟩
theorem atStart : AtStart classFile x code maxLocals ret World_1 tables_1 room_1 Calls_1 rest_1 Pre_1 launch0 p0 e0 about1 theMethod args0 below0 :=
  ⟨lists_1, trivial, launch0.admits_env _ _ _, launch0.least_env, fairChoices_fair.cas, fairChoices_fair.clock, w_frames, w_args, w_heap, w_applies, trivial, trivial, w_case⟩
end start1
theorem witness_1 : WitnessClaimed_1 := ⟨start1.p0, start1.e0, start1.about1, start1.theMethod, start1.args0, start1.below0, start1.atStart⟩
end Jvm.Pilot.@@N@@
