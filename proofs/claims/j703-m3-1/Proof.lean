import JvmDerived
import JvmDerived.Pilot.@@N@@Statement
import JvmDerived.Pilot.@@N@@Code
set_option linter.unusedVariables false
set_option linter.unusedSimpArgs false
namespace Jvm.Pilot.@@N@@
open Jvm Jvm.ClassFile Sem Op Lib Jvm.Free Jvm.Stand Jvm.LawKit Jvm.RoadKit Bundle Jvm.Pilot.@@N@@.Jvm.D
/-- Java's x >>> y -/
def ushr (x y : Int32) : Int32 := (x.toUInt32 >>> (y &&& 31).toUInt32).toInt32
def ushrL (x : Int64) (y : Int32) : Int64 := (x.toUInt64 >>> (y &&& 0x3f).toInt64.toUInt64).toInt64
/-- what lcmp pushes -/
abbrev cmpL (x y : Int64) : Int32 := lcmpW x y
section Own
variable {p : Program} {l : Launch} {e : Env} {R : Room} {s : State} {m : MethodId} {args : Array Value} {below : List Frame} {meth : Method} {c : Code} {T : State} {locs : List Loc} {cells slots : Nat} {Z : State} {a0 : Array Value} {h : Heap} {Q : Option Value → Heap → List Loc → Prop} {K N pc : Nat} {Ls : Array Slot} {code : ByteArray} {rest : List Value}
/-- the run from here ends: the method returns, Q says what and over which heap -/
def Ends (p : Program) (e : Env) (below : List Frame) (s : State) (Q : Option Value → Heap → List Loc → Prop) (K N : Nat) (T : State) : Prop :=
  ∃ s₂ o, Steps p.tables e below T s₂ ∧ s₂.status = .running ∧ Ended s₂ below o ∧ ∃ v L, o = .returned v ∧ Q v s₂.heap L ∧ FrameEnd s o s₂ L K N
theorem Ends.step {T T' : State} (st : ∀ t, Steps p.tables e below T' t → Steps p.tables e below T t) (h : Ends p e below s Q K N T') : Ends p e below s Q K N T := by
  obtain ⟨s2, o, h1, h2⟩ := h
  exact ⟨s2, o, st _ h1, h2⟩
def Cx (p : Program) (c : Code) (code : ByteArray) : Prop := p.tables.exec = Jvm.exec ∧ c.code = code
/-- a method's contract -/
def Con (l : Launch) (Z : State) (y : MethodName) (bytes : ByteArray) (maxL : Nat) (ret : Option FieldType) (rm : Room) (K N : Nat) (ws : List Jvm.Cond) (as' : Array Value) (h : Heap) (Q : Option Value → Heap → List Loc → Prop) : Prop :=
  MetFree l y (head1 (Jvm.Cond.code y bytes maxL ret :: ws) rm) (fun a U => a = as' ∧ Z.Warmed39 U.vm ∧ U.heap = h) (fun _ _ _ _ _ => True) (fun _ U o U' => ∃ v L, o = .returned v ∧ Q v U'.heap L ∧ FrameEnd U o U' L K N)
theorem Con.of {y : MethodName} {bytes : ByteArray} {maxL : Nat} {ret : Option FieldType} {rm : Room} {ws : List Jvm.Cond} {as' : Array Value} (hn : plainFor y = true)
    (body : ∀ (p : Program) (e : Env) (s : State) (m : MethodId) (below : List Frame) (meth : Method) (c : Code) (T : State), Cx p c bytes → Z.Warmed39 s.vm → c.maxLocals = maxL → s.vm.findClass y.cls = some m.cls → meth.sig.returnType = ret → meth.name = y.name → meth.locks = false →
      Stand p l e rm s m as' below meth c T [] 0 0 → T.heap = h → Ends p e below s Q K N (T.setTop (entryFrame m as' maxL))) : Con l Z y bytes maxL ret rm K N ws as' h Q := by
  refine MetFree.of_bodySF hn hisR ?_
  intro p e s m args below meth c s₁ Bd hml0 hP hK
  obtain ⟨rfl, hZ, hh⟩ := hP
  exact body p e s m below meth c s₁ ⟨Bd.exec, Bd.bytes⟩ hZ hml0 (findClass_of_methodNamed Bd.named) Bd.returns (name_of_methodNamed Bd.named Bd.method).1 Bd.notSynchronized (Stand.of_body Bd) (by rw [← hh, Bd.state]; rfl)
theorem o_iadd (C : Cx p c code) (X : Stand p l e R s m args below meth c T locs cells slots) {x y : Int32} (hd : decode code pc = .ok (.iadd, 1)) (q : Nat) (hq : pc + 1 = q) (k : Ends p e below s Q K N (T.setTop (mkF m q Ls (.int (x + y) :: rest)))) : Ends p e below s Q K N (T.setTop (mkF m pc Ls (.int y :: .int x :: rest))) := by
  subst hq
  exact .step (fun _ t => XS.iadd X.here C.1 rfl (hb C.2 hd) rfl t) k
theorem o_isub (C : Cx p c code) (X : Stand p l e R s m args below meth c T locs cells slots) {x y : Int32} (hd : decode code pc = .ok (.isub, 1)) (q : Nat) (hq : pc + 1 = q) (k : Ends p e below s Q K N (T.setTop (mkF m q Ls (.int (x - y) :: rest)))) : Ends p e below s Q K N (T.setTop (mkF m pc Ls (.int y :: .int x :: rest))) := by
  subst hq
  exact .step (fun _ t => XS.isub X.here C.1 rfl (hb C.2 hd) rfl t) k
theorem o_imul (C : Cx p c code) (X : Stand p l e R s m args below meth c T locs cells slots) {x y : Int32} (hd : decode code pc = .ok (.imul, 1)) (q : Nat) (hq : pc + 1 = q) (k : Ends p e below s Q K N (T.setTop (mkF m q Ls (.int (x * y) :: rest)))) : Ends p e below s Q K N (T.setTop (mkF m pc Ls (.int y :: .int x :: rest))) := by
  subst hq
  exact .step (fun _ t => XS.imul X.here C.1 rfl (hb C.2 hd) rfl t) k
theorem o_iand (C : Cx p c code) (X : Stand p l e R s m args below meth c T locs cells slots) {x y : Int32} (hd : decode code pc = .ok (.iand, 1)) (q : Nat) (hq : pc + 1 = q) (k : Ends p e below s Q K N (T.setTop (mkF m q Ls (.int (x &&& y) :: rest)))) : Ends p e below s Q K N (T.setTop (mkF m pc Ls (.int y :: .int x :: rest))) := by
  subst hq
  exact .step (fun _ t => XS.iand X.here C.1 rfl (hb C.2 hd) rfl t) k
theorem o_ior (C : Cx p c code) (X : Stand p l e R s m args below meth c T locs cells slots) {x y : Int32} (hd : decode code pc = .ok (.ior, 1)) (q : Nat) (hq : pc + 1 = q) (k : Ends p e below s Q K N (T.setTop (mkF m q Ls (.int (x ||| y) :: rest)))) : Ends p e below s Q K N (T.setTop (mkF m pc Ls (.int y :: .int x :: rest))) := by
  subst hq
  exact .step (fun _ t => XS.ior X.here C.1 rfl (hb C.2 hd) rfl t) k
theorem o_ixor (C : Cx p c code) (X : Stand p l e R s m args below meth c T locs cells slots) {x y : Int32} (hd : decode code pc = .ok (.ixor, 1)) (q : Nat) (hq : pc + 1 = q) (k : Ends p e below s Q K N (T.setTop (mkF m q Ls (.int (x ^^^ y) :: rest)))) : Ends p e below s Q K N (T.setTop (mkF m pc Ls (.int y :: .int x :: rest))) := by
  subst hq
  exact .step (fun _ t => XS.ixor X.here C.1 rfl (hb C.2 hd) rfl t) k
theorem o_ishl (C : Cx p c code) (X : Stand p l e R s m args below meth c T locs cells slots) {x y : Int32} (hd : decode code pc = .ok (.ishl, 1)) (q : Nat) (hq : pc + 1 = q) (k : Ends p e below s Q K N (T.setTop (mkF m q Ls (.int (x <<< (y &&& 31)) :: rest)))) : Ends p e below s Q K N (T.setTop (mkF m pc Ls (.int y :: .int x :: rest))) := by
  subst hq
  exact .step (fun _ t => XS.ishl X.here C.1 rfl (hb C.2 hd) rfl t) k
theorem o_ishr (C : Cx p c code) (X : Stand p l e R s m args below meth c T locs cells slots) {x y : Int32} (hd : decode code pc = .ok (.ishr, 1)) (q : Nat) (hq : pc + 1 = q) (k : Ends p e below s Q K N (T.setTop (mkF m q Ls (.int (x >>> (y &&& 31)) :: rest)))) : Ends p e below s Q K N (T.setTop (mkF m pc Ls (.int y :: .int x :: rest))) := by
  subst hq
  exact .step (fun _ t => XS.ishr X.here C.1 rfl (hb C.2 hd) rfl t) k
theorem o_iushr (C : Cx p c code) (X : Stand p l e R s m args below meth c T locs cells slots) {x y : Int32} (hd : decode code pc = .ok (.iushr, 1)) (q : Nat) (hq : pc + 1 = q) (k : Ends p e below s Q K N (T.setTop (mkF m q Ls (.int (ushr x y) :: rest)))) : Ends p e below s Q K N (T.setTop (mkF m pc Ls (.int y :: .int x :: rest))) := by
  subst hq
  exact .step (fun _ t => XS.iushr X.here C.1 rfl (hb C.2 hd) rfl t) k
theorem o_irem (C : Cx p c code) (X : Stand p l e R s m args below meth c T locs cells slots) {x y : Int32} (hd : decode code pc = .ok (.irem, 1)) (q : Nat) (hq : pc + 1 = q) (hy : y ≠ 0) (k : Ends p e below s Q K N (T.setTop (mkF m q Ls (.int (x % y) :: rest)))) : Ends p e below s Q K N (T.setTop (mkF m pc Ls (.int y :: .int x :: rest))) := by
  subst hq
  exact .step (fun _ t => iremM X C.1 rfl (hb C.2 hd) rfl hy t) k
theorem o_idiv (C : Cx p c code) (X : Stand p l e R s m args below meth c T locs cells slots) {x y : Int32} (hd : decode code pc = .ok (.idiv, 1)) (q : Nat) (hq : pc + 1 = q) (hy : y ≠ 0) (k : Ends p e below s Q K N (T.setTop (mkF m q Ls (.int (x / y) :: rest)))) : Ends p e below s Q K N (T.setTop (mkF m pc Ls (.int y :: .int x :: rest))) := by
  subst hq
  exact .step (fun _ t => XS.idiv X.here C.1 rfl (hb C.2 hd) rfl hy t) k
theorem o_ladd (C : Cx p c code) (X : Stand p l e R s m args below meth c T locs cells slots) {x y : Int64} (hd : decode code pc = .ok (.ladd, 1)) (q : Nat) (hq : pc + 1 = q) (k : Ends p e below s Q K N (T.setTop (mkF m q Ls (.long (x + y) :: rest)))) : Ends p e below s Q K N (T.setTop (mkF m pc Ls (.long y :: .long x :: rest))) := by
  subst hq
  exact .step (fun _ t => XS.ladd X.here C.1 rfl (hb C.2 hd) rfl t) k
theorem o_lsub (C : Cx p c code) (X : Stand p l e R s m args below meth c T locs cells slots) {x y : Int64} (hd : decode code pc = .ok (.lsub, 1)) (q : Nat) (hq : pc + 1 = q) (k : Ends p e below s Q K N (T.setTop (mkF m q Ls (.long (x - y) :: rest)))) : Ends p e below s Q K N (T.setTop (mkF m pc Ls (.long y :: .long x :: rest))) := by
  subst hq
  exact .step (fun _ t => XS.lsub X.here C.1 rfl (hb C.2 hd) rfl t) k
theorem o_land (C : Cx p c code) (X : Stand p l e R s m args below meth c T locs cells slots) {x y : Int64} (hd : decode code pc = .ok (.land, 1)) (q : Nat) (hq : pc + 1 = q) (k : Ends p e below s Q K N (T.setTop (mkF m q Ls (.long (x &&& y) :: rest)))) : Ends p e below s Q K N (T.setTop (mkF m pc Ls (.long y :: .long x :: rest))) := by
  subst hq
  exact .step (fun _ t => XS.land X.here C.1 rfl (hb C.2 hd) rfl t) k
theorem o_lor (C : Cx p c code) (X : Stand p l e R s m args below meth c T locs cells slots) {x y : Int64} (hd : decode code pc = .ok (.lor, 1)) (q : Nat) (hq : pc + 1 = q) (k : Ends p e below s Q K N (T.setTop (mkF m q Ls (.long (x ||| y) :: rest)))) : Ends p e below s Q K N (T.setTop (mkF m pc Ls (.long y :: .long x :: rest))) := by
  subst hq
  exact .step (fun _ t => XS.lor X.here C.1 rfl (hb C.2 hd) rfl t) k
theorem o_lxor (C : Cx p c code) (X : Stand p l e R s m args below meth c T locs cells slots) {x y : Int64} (hd : decode code pc = .ok (.lxor, 1)) (q : Nat) (hq : pc + 1 = q) (k : Ends p e below s Q K N (T.setTop (mkF m q Ls (.long (x ^^^ y) :: rest)))) : Ends p e below s Q K N (T.setTop (mkF m pc Ls (.long y :: .long x :: rest))) := by
  subst hq
  exact .step (fun _ t => XS.lxor X.here C.1 rfl (hb C.2 hd) rfl t) k
theorem o_lushr (C : Cx p c code) (X : Stand p l e R s m args below meth c T locs cells slots) {x : Int64} {y : Int32} (hd : decode code pc = .ok (.lushr, 1)) (q : Nat) (hq : pc + 1 = q) (k : Ends p e below s Q K N (T.setTop (mkF m q Ls (.long (ushrL x y) :: rest)))) : Ends p e below s Q K N (T.setTop (mkF m pc Ls (.int y :: .long x :: rest))) := by
  subst hq
  exact .step (fun _ t => XS.lushr X.here C.1 rfl (hb C.2 hd) rfl t) k
theorem o_lcmp (C : Cx p c code) (X : Stand p l e R s m args below meth c T locs cells slots) {x y : Int64} (hd : decode code pc = .ok (.lcmp, 1)) (q : Nat) (hq : pc + 1 = q) (k : Ends p e below s Q K N (T.setTop (mkF m q Ls (.int (cmpL x y) :: rest)))) : Ends p e below s Q K N (T.setTop (mkF m pc Ls (.long y :: .long x :: rest))) := by
  subst hq
  exact .step (fun _ t => XS.lcmp X.here C.1 rfl (hb C.2 hd) rfl t) k
theorem o_i2l (C : Cx p c code) (X : Stand p l e R s m args below meth c T locs cells slots) {x : Int32} (hd : decode code pc = .ok (.i2l, 1)) (q : Nat) (hq : pc + 1 = q) (k : Ends p e below s Q K N (T.setTop (mkF m q Ls (.long x.toInt64 :: rest)))) : Ends p e below s Q K N (T.setTop (mkF m pc Ls (.int x :: rest))) := by
  subst hq
  exact .step (fun _ t => XS.i2l X.here C.1 rfl (hb C.2 hd) rfl t) k
theorem o_l2i (C : Cx p c code) (X : Stand p l e R s m args below meth c T locs cells slots) {x : Int64} (hd : decode code pc = .ok (.l2i, 1)) (q : Nat) (hq : pc + 1 = q) (k : Ends p e below s Q K N (T.setTop (mkF m q Ls (.int x.toInt32 :: rest)))) : Ends p e below s Q K N (T.setTop (mkF m pc Ls (.long x :: rest))) := by
  subst hq
  exact .step (fun _ t => XS.l2i X.here C.1 rfl (hb C.2 hd) rfl t) k
theorem o_i2b (C : Cx p c code) (X : Stand p l e R s m args below meth c T locs cells slots) {x : Int32} (hd : decode code pc = .ok (.i2b, 1)) (q : Nat) (hq : pc + 1 = q) (k : Ends p e below s Q K N (T.setTop (mkF m q Ls (.int x.toInt8.toInt32 :: rest)))) : Ends p e below s Q K N (T.setTop (mkF m pc Ls (.int x :: rest))) := by
  subst hq
  exact .step (fun _ t => XS.i2b X.here C.1 rfl (hb C.2 hd) rfl t) k
theorem o_i2c (C : Cx p c code) (X : Stand p l e R s m args below meth c T locs cells slots) {x : Int32} (hd : decode code pc = .ok (.i2c, 1)) (q : Nat) (hq : pc + 1 = q) (k : Ends p e below s Q K N (T.setTop (mkF m q Ls (.int x.toUInt32.toUInt16.toUInt32.toInt32 :: rest)))) : Ends p e below s Q K N (T.setTop (mkF m pc Ls (.int x :: rest))) := by
  subst hq
  exact .step (fun _ t => XS.i2c X.here C.1 rfl (hb C.2 hd) rfl t) k
theorem o_iconst (C : Cx p c code) (X : Stand p l e R s m args below meth c T locs cells slots) {i : Int} (hd : decode code pc = .ok (.iconst i, 1)) (q : Nat) (hq : pc + 1 = q) (v : Int32) (hv : Int32.ofInt i = v) (k : Ends p e below s Q K N (T.setTop (mkF m q Ls (.int v :: rest)))) : Ends p e below s Q K N (T.setTop (mkF m pc Ls rest)) := by
  subst hq
  exact .step (fun _ t => XS.iconst X.here C.1 rfl (hb C.2 hd) (by rw [hv]; exact t)) k
theorem o_bipush (C : Cx p c code) (X : Stand p l e R s m args below meth c T locs cells slots) {i : Int} (hd : decode code pc = .ok (.bipush i, 2)) (q : Nat) (hq : pc + 2 = q) (v : Int32) (hv : (Int8.ofInt i).toInt32 = v) (k : Ends p e below s Q K N (T.setTop (mkF m q Ls (.int v :: rest)))) : Ends p e below s Q K N (T.setTop (mkF m pc Ls rest)) := by
  subst hq
  exact .step (fun _ t => XS.bipush X.here C.1 rfl (hb C.2 hd) (by rw [hv]; exact t)) k
theorem o_sipush (C : Cx p c code) (X : Stand p l e R s m args below meth c T locs cells slots) {i : Int} (hd : decode code pc = .ok (.sipush i, 3)) (q : Nat) (hq : pc + 3 = q) (v : Int32) (hv : (Int16.ofInt i).toInt32 = v) (k : Ends p e below s Q K N (T.setTop (mkF m q Ls (.int v :: rest)))) : Ends p e below s Q K N (T.setTop (mkF m pc Ls rest)) := by
  subst hq
  exact .step (fun _ t => XS.sipush X.here C.1 rfl (hb C.2 hd) (by rw [hv]; exact t)) k
theorem o_lconst (C : Cx p c code) (X : Stand p l e R s m args below meth c T locs cells slots) {i : Fin 2} (hd : decode code pc = .ok (.lconst i, 1)) (q : Nat) (hq : pc + 1 = q) (v : Int64) (hv : Int64.ofNat i = v) (k : Ends p e below s Q K N (T.setTop (mkF m q Ls (.long v :: rest)))) : Ends p e below s Q K N (T.setTop (mkF m pc Ls rest)) := by
  subst hq
  exact .step (fun _ t => XS.lconst X.here C.1 rfl (hb C.2 hd) (by rw [hv]; exact t)) k
theorem o_aconst_null (C : Cx p c code) (X : Stand p l e R s m args below meth c T locs cells slots) (hd : decode code pc = .ok (.aconst_null, 1)) (q : Nat) (hq : pc + 1 = q) (k : Ends p e below s Q K N (T.setTop (mkF m q Ls (.null :: rest)))) : Ends p e below s Q K N (T.setTop (mkF m pc Ls rest)) := by
  subst hq
  exact .step (fun _ t => XS.aconstNull X.here C.1 rfl (hb C.2 hd) t) k
theorem o_dup (C : Cx p c code) (X : Stand p l e R s m args below meth c T locs cells slots) {x : Value} (hd : decode code pc = .ok (.dup, 1)) (q : Nat) (hq : pc + 1 = q) (hc : x.category = 1) (k : Ends p e below s Q K N (T.setTop (mkF m q Ls (x :: x :: rest)))) : Ends p e below s Q K N (T.setTop (mkF m pc Ls (x :: rest))) := by
  subst hq
  exact .step (fun _ t => XS.dup X.here C.1 rfl (hb C.2 hd) rfl hc t) k
theorem o_dup_x1 (C : Cx p c code) (X : Stand p l e R s m args below meth c T locs cells slots) {x y : Value} (hd : decode code pc = .ok (.dup_x1, 1)) (q : Nat) (hq : pc + 1 = q) (hc : x.category = 1) (hc' : y.category = 1) (k : Ends p e below s Q K N (T.setTop (mkF m q Ls (x :: y :: x :: rest)))) : Ends p e below s Q K N (T.setTop (mkF m pc Ls (x :: y :: rest))) := by
  subst hq
  exact .step (fun _ t => XS.dupX1 X.here C.1 rfl (hb C.2 hd) rfl hc hc' t) k
theorem o_pop (C : Cx p c code) (X : Stand p l e R s m args below meth c T locs cells slots) {x : Value} (hd : decode code pc = .ok (.pop, 1)) (q : Nat) (hq : pc + 1 = q) (hc : x.category = 1) (k : Ends p e below s Q K N (T.setTop (mkF m q Ls rest))) : Ends p e below s Q K N (T.setTop (mkF m pc Ls (x :: rest))) := by
  subst hq
  exact .step (fun _ t => XS.pop X.here C.1 rfl (hb C.2 hd) rfl hc t) k
theorem o_iloadN (C : Cx p c code) (X : Stand p l e R s m args below meth c T locs cells slots) {i : Fin 4} {v : Int32} (hd : decode code pc = .ok (.iload_n i, 1)) (q : Nat) (hq : pc + 1 = q) (hl : Ls[i.val]? = some (.val (.int v))) (k : Ends p e below s Q K N (T.setTop (mkF m q Ls (.int v :: rest)))) : Ends p e below s Q K N (T.setTop (mkF m pc Ls rest)) := by
  subst hq
  exact .step (fun _ t => XS.iloadN X.here C.1 rfl (hb C.2 hd) hl t) k
theorem o_iload (C : Cx p c code) (X : Stand p l e R s m args below meth c T locs cells slots) {i : Nat} {v : Int32} (hd : decode code pc = .ok (.iload i, 2)) (q : Nat) (hq : pc + 2 = q) (hl : Ls[i]? = some (.val (.int v))) (k : Ends p e below s Q K N (T.setTop (mkF m q Ls (.int v :: rest)))) : Ends p e below s Q K N (T.setTop (mkF m pc Ls rest)) := by
  subst hq
  exact .step (fun _ t => XS.iload X.here C.1 rfl (hb C.2 hd) hl t) k
theorem o_lloadN (C : Cx p c code) (X : Stand p l e R s m args below meth c T locs cells slots) {i : Fin 4} {v : Int64} (hd : decode code pc = .ok (.lload_n i, 1)) (q : Nat) (hq : pc + 1 = q) (hl : Ls[i.val]? = some (.val (.long v))) (k : Ends p e below s Q K N (T.setTop (mkF m q Ls (.long v :: rest)))) : Ends p e below s Q K N (T.setTop (mkF m pc Ls rest)) := by
  subst hq
  exact .step (fun _ t => XS.lloadN X.here C.1 rfl (hb C.2 hd) hl t) k
theorem o_lload (C : Cx p c code) (X : Stand p l e R s m args below meth c T locs cells slots) {i : Nat} {v : Int64} (hd : decode code pc = .ok (.lload i, 2)) (q : Nat) (hq : pc + 2 = q) (hl : Ls[i]? = some (.val (.long v))) (k : Ends p e below s Q K N (T.setTop (mkF m q Ls (.long v :: rest)))) : Ends p e below s Q K N (T.setTop (mkF m pc Ls rest)) := by
  subst hq
  exact .step (fun _ t => XS.lload X.here C.1 rfl (hb C.2 hd) hl t) k
theorem o_aloadN (C : Cx p c code) (X : Stand p l e R s m args below meth c T locs cells slots) {i : Fin 4} {v : Value} (hd : decode code pc = .ok (.aload_n i, 1)) (q : Nat) (hq : pc + 1 = q) (hl : Ls[i.val]? = some (.val v)) (hv : v.isRef = true) (k : Ends p e below s Q K N (T.setTop (mkF m q Ls (v :: rest)))) : Ends p e below s Q K N (T.setTop (mkF m pc Ls rest)) := by
  subst hq
  exact .step (fun _ t => XS.aloadN X.here C.1 rfl (hb C.2 hd) hl hv t) k
theorem o_aload (C : Cx p c code) (X : Stand p l e R s m args below meth c T locs cells slots) {i : Nat} {v : Value} (hd : decode code pc = .ok (.aload i, 2)) (q : Nat) (hq : pc + 2 = q) (hl : Ls[i]? = some (.val v)) (hv : v.isRef = true) (k : Ends p e below s Q K N (T.setTop (mkF m q Ls (v :: rest)))) : Ends p e below s Q K N (T.setTop (mkF m pc Ls rest)) := by
  subst hq
  exact .step (fun _ t => XS.aload X.here C.1 rfl (hb C.2 hd) hl hv t) k
theorem o_istoreN (C : Cx p c code) (X : Stand p l e R s m args below meth c T locs cells slots) {i : Fin 4} {x : Int32} (hd : decode code pc = .ok (.istore_n i, 1)) (q : Nat) (hq : pc + 1 = q) (l' : Array Slot) (hl : storeLocals Ls i.val (.int x) = some l') (k : Ends p e below s Q K N (T.setTop (mkF m q l' rest))) : Ends p e below s Q K N (T.setTop (mkF m pc Ls (.int x :: rest))) := by
  subst hq
  exact .step (fun _ t => XS.istoreN X.here C.1 rfl (hb C.2 hd) rfl hl t) k
theorem o_istore (C : Cx p c code) (X : Stand p l e R s m args below meth c T locs cells slots) {i : Nat} {x : Int32} (hd : decode code pc = .ok (.istore i, 2)) (q : Nat) (hq : pc + 2 = q) (l' : Array Slot) (hl : storeLocals Ls i (.int x) = some l') (k : Ends p e below s Q K N (T.setTop (mkF m q l' rest))) : Ends p e below s Q K N (T.setTop (mkF m pc Ls (.int x :: rest))) := by
  subst hq
  exact .step (fun _ t => XS.istore X.here C.1 rfl (hb C.2 hd) rfl hl t) k
theorem o_lstoreN (C : Cx p c code) (X : Stand p l e R s m args below meth c T locs cells slots) {i : Fin 4} {x : Int64} (hd : decode code pc = .ok (.lstore_n i, 1)) (q : Nat) (hq : pc + 1 = q) (l' : Array Slot) (hl : storeLocals Ls i.val (.long x) = some l') (k : Ends p e below s Q K N (T.setTop (mkF m q l' rest))) : Ends p e below s Q K N (T.setTop (mkF m pc Ls (.long x :: rest))) := by
  subst hq
  exact .step (fun _ t => XS.lstoreN X.here C.1 rfl (hb C.2 hd) rfl hl t) k
theorem o_lstore (C : Cx p c code) (X : Stand p l e R s m args below meth c T locs cells slots) {i : Nat} {x : Int64} (hd : decode code pc = .ok (.lstore i, 2)) (q : Nat) (hq : pc + 2 = q) (l' : Array Slot) (hl : storeLocals Ls i (.long x) = some l') (k : Ends p e below s Q K N (T.setTop (mkF m q l' rest))) : Ends p e below s Q K N (T.setTop (mkF m pc Ls (.long x :: rest))) := by
  subst hq
  exact .step (fun _ t => XS.lstore X.here C.1 rfl (hb C.2 hd) rfl hl t) k
theorem o_astoreN (C : Cx p c code) (X : Stand p l e R s m args below meth c T locs cells slots) {i : Fin 4} {x : Value} (hd : decode code pc = .ok (.astore_n i, 1)) (q : Nat) (hq : pc + 1 = q) (hv : x.isRef = true) (l' : Array Slot) (hl : storeLocals Ls i.val x = some l') (k : Ends p e below s Q K N (T.setTop (mkF m q l' rest))) : Ends p e below s Q K N (T.setTop (mkF m pc Ls (x :: rest))) := by
  subst hq
  exact .step (fun _ t => XS.astoreN X.here C.1 rfl (hb C.2 hd) rfl hv hl t) k
theorem o_astore (C : Cx p c code) (X : Stand p l e R s m args below meth c T locs cells slots) {i : Nat} {x : Value} (hd : decode code pc = .ok (.astore i, 2)) (q : Nat) (hq : pc + 2 = q) (hv : x.isRef = true) (l' : Array Slot) (hl : storeLocals Ls i x = some l') (k : Ends p e below s Q K N (T.setTop (mkF m q l' rest))) : Ends p e below s Q K N (T.setTop (mkF m pc Ls (x :: rest))) := by
  subst hq
  exact .step (fun _ t => XS.astore X.here C.1 rfl (hb C.2 hd) rfl hv hl t) k
theorem o_iinc (C : Cx p c code) (X : Stand p l e R s m args below meth c T locs cells slots) {i : Nat} {cst : Int} {x : Int32} (v : Int32) (hd : decode code pc = .ok (.iinc i cst, 3)) (q : Nat) (hq : pc + 3 = q) (l' : Array Slot) (hl : Ls[i]? = some (.val (.int x))) (hv : x + Int32.ofInt cst = v) (hl' : storeLocals Ls i (.int v) = some l') (k : Ends p e below s Q K N (T.setTop (mkF m q l' rest))) : Ends p e below s Q K N (T.setTop (mkF m pc Ls rest)) := by
  subst hq hv
  exact .step (fun _ t => XS.iinc X.here C.1 rfl (hb C.2 hd) hl hl' t) k
theorem o_goto (C : Cx p c code) (X : Stand p l e R s m args below meth c T locs cells slots) {o : Int} (hd : decode code pc = .ok (.goto o, 3)) (q : Nat) (ho : 0 ≤ (pc : Int) + o) (hq : ((pc : Int) + o).toNat = q) (k : Ends p e below s Q K N (T.setTop (mkF m q Ls rest))) : Ends p e below s Q K N (T.setTop (mkF m pc Ls rest)) := by
  exact .step (fun _ t => XS.goto X.here C.1 rfl (pc0 := pc) rfl (hb C.2 hd) ho hq t) k
theorem o_ifY (C : Cx p c code) (X : Stand p l e R s m args below meth c T locs cells slots) {cd : ClassFile.Cond} {o : Int} {x : Int32} (hd : decode code pc = .ok (.ifCond cd o, 3)) (q : Nat) (ho : 0 ≤ (pc : Int) + o) (hq : ((pc : Int) + o).toNat = q) (hc : ifCond.holds cd x = true) (k : Ends p e below s Q K N (T.setTop (mkF m q Ls rest))) : Ends p e below s Q K N (T.setTop (mkF m pc Ls (.int x :: rest))) := by
  exact .step (fun _ t => XS.ifYes X.here C.1 rfl (pc0 := pc) rfl (hb C.2 hd) rfl hc ho hq t) k
theorem o_ifN (C : Cx p c code) (X : Stand p l e R s m args below meth c T locs cells slots) {cd : ClassFile.Cond} {o : Int} {x : Int32} (hd : decode code pc = .ok (.ifCond cd o, 3)) (q : Nat) (hq : pc + 3 = q) (hc : ifCond.holds cd x = false) (k : Ends p e below s Q K N (T.setTop (mkF m q Ls rest))) : Ends p e below s Q K N (T.setTop (mkF m pc Ls (.int x :: rest))) := by
  subst hq
  exact .step (fun _ t => XS.ifNo X.here C.1 rfl (hb C.2 hd) rfl hc t) k
theorem o_icmpY (C : Cx p c code) (X : Stand p l e R s m args below meth c T locs cells slots) {cd : ClassFile.Cond} {o : Int} {x y : Int32} (hd : decode code pc = .ok (.if_icmp cd o, 3)) (q : Nat) (ho : 0 ≤ (pc : Int) + o) (hq : ((pc : Int) + o).toNat = q) (hc : if_icmp.holds cd x y = true) (k : Ends p e below s Q K N (T.setTop (mkF m q Ls rest))) : Ends p e below s Q K N (T.setTop (mkF m pc Ls (.int y :: .int x :: rest))) := by
  exact .step (fun _ t => XS.icmpYes X.here C.1 rfl (pc0 := pc) rfl (hb C.2 hd) rfl hc ho hq t) k
theorem o_icmpN (C : Cx p c code) (X : Stand p l e R s m args below meth c T locs cells slots) {cd : ClassFile.Cond} {o : Int} {x y : Int32} (hd : decode code pc = .ok (.if_icmp cd o, 3)) (q : Nat) (hq : pc + 3 = q) (hc : if_icmp.holds cd x y = false) (k : Ends p e below s Q K N (T.setTop (mkF m q Ls rest))) : Ends p e below s Q K N (T.setTop (mkF m pc Ls (.int y :: .int x :: rest))) := by
  subst hq
  exact .step (fun _ t => XS.icmpNo X.here C.1 rfl (hb C.2 hd) rfl hc t) k
theorem o_tlt {x y : Int64} (h : x < y) : ifCond.holds .lt (cmpL x y) = true ∧ ifCond.holds .ge (cmpL x y) = false := by
  have := (lw_lt x y).mpr h
  simp only [if0]; exact ⟨(tlt this).1, (tlt this).2.1⟩
theorem o_flt {x y : Int64} (h : ¬ x < y) : ifCond.holds .lt (cmpL x y) = false ∧ ifCond.holds .ge (cmpL x y) = true := by
  have := fun q => h ((lw_lt x y).mp q)
  simp only [if0]; exact ⟨(flt this).1, (flt this).2.1⟩
theorem o_tgt {x y : Int64} (h : y < x) : ifCond.holds .gt (cmpL x y) = true ∧ ifCond.holds .le (cmpL x y) = false := by
  have := (lw_gt x y).mpr h
  simp only [if0]; exact ⟨(tlt this).2.2.1, (tlt this).2.2.2⟩
theorem o_fgt {x y : Int64} (h : ¬ y < x) : ifCond.holds .gt (cmpL x y) = false ∧ ifCond.holds .le (cmpL x y) = true := by
  have := fun q => h ((lw_gt x y).mp q)
  simp only [if0]; exact ⟨(flt this).2.2.1, (flt this).2.2.2⟩
theorem o_teq {x y : Int64} (h : x = y) : ifCond.holds .eq (cmpL x y) = true ∧ ifCond.holds .ne (cmpL x y) = false := by
  have := (lw_eq x y).mpr h
  simp only [if0]; exact ⟨(teq this).1, (teq this).2⟩
theorem o_feq {x y : Int64} (h : ¬ x = y) : ifCond.holds .eq (cmpL x y) = false ∧ ifCond.holds .ne (cmpL x y) = true := by
  have := fun q => h ((lw_eq x y).mp q)
  simp only [if0]; exact ⟨(feq this).1, (feq this).2⟩
theorem o_ldcI (C : Cx p c code) (X : Stand p l e R s m args below meth c T locs cells slots) (hZ : Z.Warmed39 s.vm) {own : String} {index : Nat} {v : Int32} (hown : s.vm.findClass own = some m.cls) (w : (Jvm.Cond.constant own index v).before a0 Z = true) (hd : decode code pc = .ok (.ldc index, 2)) (q : Nat) (hq : pc + 2 = q) (k : Ends p e below s Q K N (T.setTop (mkF m q Ls (.int v :: rest)))) : Ends p e below s Q K N (T.setTop (mkF m pc Ls rest)) := by
  subst hq
  exact .step (fun _ t => X.ldcI C.1 hown (mvT hZ w) (g := mkF m pc Ls rest) rfl (hb C.2 hd) t) k
theorem o_ldc2J (C : Cx p c code) (X : Stand p l e R s m args below meth c T locs cells slots) (hZ : Z.Warmed39 s.vm) {own : String} {index : Nat} {v : Int64} (hown : s.vm.findClass own = some m.cls) (w : (Jvm.Cond.constantLong own index v).before a0 Z = true) (hd : decode code pc = .ok (.ldc2_w index, 3)) (q : Nat) (hq : pc + 3 = q) (k : Ends p e below s Q K N (T.setTop (mkF m q Ls (.long v :: rest)))) : Ends p e below s Q K N (T.setTop (mkF m pc Ls rest)) := by
  subst hq
  exact .step (fun _ t => X.ldc2J C.1 hown (mvT hZ w) (g := mkF m pc Ls rest) rfl (hb C.2 hd) t) k
theorem o_retI (C : Cx p c code) (X : Stand p l e R s m args below meth c T locs cells slots) {z : Int32} (hret : meth.sig.returnType = some .int) (hlk : meth.locks = false) (hd : decode code pc = .ok (.ireturn, 1)) (hQ : Q (some (.int z)) T.heap locs) (hK : cells ≤ K) (hN : slots ≤ N) : Ends p e below s Q K N (T.setTop (mkF m pc Ls (.int z :: rest))) := by
  obtain ⟨fs, hr, hrun, hended, hW, hsame⟩ := X.leave (v := (some (.int z))) (fun h => by rw [hret] at h; cases h) hlk
  exact ⟨_, _, retOut X C.1 hret rfl (Or.inl ⟨rfl, Or.inl rfl, z, rfl⟩) (hb C.2 hd) hr, hrun, hended, _, _, rfl, hQ, ⟨_, rfl⟩, hW, hsame.mono hK hN⟩
theorem o_retN (C : Cx p c code) (X : Stand p l e R s m args below meth c T locs cells slots) {z : Int32} {t : FieldType} (hret : meth.sig.returnType = some t) (ht : t = .boolean ∨ t = .byte ∨ t = .char ∨ t = .short) (hlk : meth.locks = false) (hd : decode code pc = .ok (.ireturn, 1)) (hQ : Q (some (.int (nar t z))) T.heap locs) (hK : cells ≤ K) (hN : slots ≤ N) : Ends p e below s Q K N (T.setTop (mkF m pc Ls (.int z :: rest))) := by
  obtain ⟨fs, hr, hrun, hended, hW, hsame⟩ := X.leave (v := (some (.int (nar t z)))) (fun h => by rw [hret] at h; cases h) hlk
  exact ⟨_, _, retN X C.1 hret ht (hb C.2 hd) hr, hrun, hended, _, _, rfl, hQ, ⟨_, rfl⟩, hW, hsame.mono hK hN⟩
theorem o_retJ (C : Cx p c code) (X : Stand p l e R s m args below meth c T locs cells slots) {z : Int64} (hret : meth.sig.returnType = some .long) (hlk : meth.locks = false) (hd : decode code pc = .ok (.lreturn, 1)) (hQ : Q (some (.long z)) T.heap locs) (hK : cells ≤ K) (hN : slots ≤ N) : Ends p e below s Q K N (T.setTop (mkF m pc Ls (.long z :: rest))) := by
  obtain ⟨fs, hr, hrun, hended, hW, hsame⟩ := X.leave (v := (some (.long z))) (fun h => by rw [hret] at h; cases h) hlk
  exact ⟨_, _, retOut X C.1 hret rfl (Or.inr (Or.inl ⟨rfl, rfl, z, rfl⟩)) (hb C.2 hd) hr, hrun, hended, _, _, rfl, hQ, ⟨_, rfl⟩, hW, hsame.mono hK hN⟩
theorem o_retA (C : Cx p c code) (X : Stand p l e R s m args below meth c T locs cells slots) {z : Addr} {t : FieldType} (hret : meth.sig.returnType = some t) (ht : t.isReference = true) (hlk : meth.locks = false) (hd : decode code pc = .ok (.areturn, 1)) (hQ : Q (some (.ref z)) T.heap locs) (hK : cells ≤ K) (hN : slots ≤ N) : Ends p e below s Q K N (T.setTop (mkF m pc Ls (.ref z :: []))) := by
  obtain ⟨fs, hr, hrun, hended, hW, hsame⟩ := X.leave (v := (some (.ref z))) (fun h => by rw [hret] at h; cases h) hlk
  exact ⟨_, _, X.areturnOut C.1 rfl hret ht (hb C.2 hd) hr, hrun, hended, _, _, rfl, hQ, ⟨_, rfl⟩, hW, hsame.mono hK hN⟩
theorem o_ret (C : Cx p c code) (X : Stand p l e R s m args below meth c T locs cells slots) (hret : meth.sig.returnType = none) (hlk : meth.locks = false) (hd : decode code pc = .ok (.return_, 1)) (hQ : Q none T.heap locs) (hK : cells ≤ K) (hN : slots ≤ N) : Ends p e below s Q K N (T.setTop (mkF m pc Ls [])) := by
  obtain ⟨fs, hr, hrun, hended, hW, hsame⟩ := X.leave (v := none) (fun _ => rfl) hlk
  exact ⟨_, _, X.returnOut C.1 hret (hb C.2 hd) hr, hrun, hended, _, _, rfl, hQ, ⟨_, rfl⟩, hW, hsame.mono hK hN⟩
theorem o_callS (C : Cx p c code) (X : Stand p l e R s m args below meth c T locs cells slots) (hZ : Z.Warmed39 s.vm) (hml : c.maxLocals = Ls.size) {own : String} {index : Nat} {y : MethodName} {bytes : ByteArray} {maxL : Nat} {ret : Option FieldType} {rm : Room} {Qc : Option Value → Heap → List Loc → Prop} (hown : s.vm.findClass own = some m.cls)
    (w1 : (Jvm.Cond.methodLink own index y).before a0 Z = true) (w2 : (Jvm.Cond.static y).before a0 Z = true) (w3 : (Jvm.Cond.initialized y.cls).before a0 Z = true) (w4 : (Jvm.Cond.code y bytes maxL ret).before a0 Z = true) (hy : y.cls ≠ "java/lang/invoke/MethodHandle" ∧ y.cls ≠ "java/lang/invoke/VarHandle")
    {asL st : List Value} (hM : Con l Z y bytes maxL ret rm rm.cells rm.slots [] asL.toArray h Qc) (eT : T.heap = h) {ps : List FieldType} {rt : Option FieldType} (pd : parseMethodDescriptor y.desc = some ⟨ps, rt⟩) (hlen : asL.length = ps.length) (hst : st = asL.reverse ++ rest) (W : Nat) (hW : (rest.map fun v => v.category).sum ≤ W) (hf : rm.frames + 1 ≤ R.frames) (hl : W + (maxL + 11) + rm.locals ≤ R.locals) (hcl : cells + rm.cells ≤ R.cells) (hsl : slots + rm.slots ≤ R.slots)
    (hd : decode code pc = .ok (.invokestatic index, 3)) (q : Nat) (hq : pc + 3 = q) (k : ∀ (T' : State) (h' : Heap) (v : Option Value) (L : List Loc), Stand p l e R s m args below meth c T' (locs ++ L) (cells + rm.cells) (slots + rm.slots) → T'.heap = h' → Qc v h' L → Ends p e below s Q K N (T'.setTop (mkF m q Ls (v.toList ++ rest)))) : Ends p e below s Q K N (T.setTop (mkF m pc Ls st)) := by
  subst hq hst
  obtain ⟨v, _, ⟨T', L', k', n'⟩, -, X', ⟨Lc, hQ, rfl, rfl, rfl⟩, st⟩ := Jvm.LawKit.callS X C.1 (y := y) hown (mvT hZ w1) (mvT hZ w2) (mvT hZ w3) (mvT hZ w4) hy (backOf (W := W) hM hZ w4 w3 hf hl) (g := mkF m pc Ls (asL.reverse ++ rest)) rfl hml.symm (argsL := asL) (rest := rest) (lenOf pd hlen) rfl (by show 2 * 0 + _ ≤ _; omega) (hb C.2 hd) (fun _ _ => ⟨rfl, eT, hcl, hsl⟩)
  exact .step st (k T' _ v Lc X' rfl hQ)
theorem o_callI (C : Cx p c code) (X : Stand p l e R s m args below meth c T locs cells slots) (hZ : Z.Warmed39 s.vm) (hml : c.maxLocals = Ls.size) {own : String} {index : Nat} {y : MethodName} {bytes : ByteArray} {maxL : Nat} {rm : Room} {Qc : Option Value → Heap → List Loc → Prop} (hown : s.vm.findClass own = some m.cls) (hy1 : y.name = "<init>")
    (w1 : (Jvm.Cond.methodLink own index y).before a0 Z = true) (w2 : (Jvm.Cond.instanceMethod y).before a0 Z = true) (w3 : (Jvm.Cond.initialized y.cls).before a0 Z = true) (w4 : (Jvm.Cond.code y bytes maxL none).before a0 Z = true) (hy : y.cls ≠ "java/lang/invoke/MethodHandle" ∧ y.cls ≠ "java/lang/invoke/VarHandle")
    {asL st : List Value} {a : Addr} (hM : Con l Z y bytes maxL none rm rm.cells rm.slots [] (.ref a :: asL).toArray h Qc) (eT : T.heap = h) {ps : List FieldType} {rt : Option FieldType} (pd : parseMethodDescriptor y.desc = some ⟨ps, rt⟩) (hlen : asL.length = ps.length) (hst : st = asL.reverse ++ .ref a :: rest) (W : Nat) (hW : (rest.map fun v => v.category).sum ≤ W) (hf : rm.frames + 1 ≤ R.frames) (hl : W + (maxL + 11) + rm.locals ≤ R.locals) (hcl : cells + rm.cells ≤ R.cells) (hsl : slots + rm.slots ≤ R.slots)
    (hd : decode code pc = .ok (.invokespecial index, 3)) (q : Nat) (hq : pc + 3 = q) (k : ∀ (T' : State) (h' : Heap) (v : Option Value) (L : List Loc), Stand p l e R s m args below meth c T' (locs ++ L) (cells + rm.cells) (slots + rm.slots) → T'.heap = h' → Qc v h' L → Ends p e below s Q K N (T'.setTop (mkF m q Ls (v.toList ++ rest)))) : Ends p e below s Q K N (T.setTop (mkF m pc Ls st)) := by
  subst hq hst
  obtain ⟨v, _, ⟨T', L', k', n'⟩, -, X', ⟨Lc, hQ, rfl, rfl, rfl⟩, st⟩ := X.specialBack C.1 (y := y) hy1 hown (mvT hZ w1) (mvT hZ w2) (mvT hZ w4) hy (backOf (W := W) hM hZ w4 w3 hf hl) (g := mkF m pc Ls (asL.reverse ++ .ref a :: rest)) rfl hml.symm (Steps.refl _) (a := a) (argsL := asL) (rest := rest) (lenOf pd hlen) rfl (by show 2 * 0 + _ ≤ _; omega) (hb C.2 hd) (fun _ _ => ⟨rfl, eT, hcl, hsl⟩)
  exact .step (fun _ t => st.trans t) (k T' _ v Lc X' rfl hQ)
theorem o_callV (C : Cx p c code) (X : Stand p l e R s m args below meth c T locs cells slots) (hZ : Z.Warmed39 s.vm) (hml : c.maxLocals = Ls.size) {own : String} {index : Nat} {y : MethodName} {bytes : ByteArray} {maxL : Nat} {ret : Option FieldType} {rm : Room} {Qc : Option Value → Heap → List Loc → Prop} (hown : s.vm.findClass own = some m.cls)
    (w1 : (Jvm.Cond.methodLink own index y).before a0 Z = true) (w2 : (Jvm.Cond.declares y).before a0 Z = true) (w5 : (Jvm.Cond.selects y.cls y y).before a0 Z = true) (w6 : (Jvm.Cond.instanceMethod y).before a0 Z = true) (w3 : (Jvm.Cond.initialized y.cls).before a0 Z = true) (w4 : (Jvm.Cond.code y bytes maxL ret).before a0 Z = true) (hy : y.cls ≠ "java/lang/invoke/MethodHandle" ∧ y.cls ≠ "java/lang/invoke/VarHandle")
    {asL st : List Value} {a : Addr} (hM : Con l Z y bytes maxL ret rm rm.cells rm.slots [] (.ref a :: asL).toArray h Qc) (eT : T.heap = h) (E : Exa Z h a y.cls) {ps : List FieldType} {rt : Option FieldType} (pd : parseMethodDescriptor y.desc = some ⟨ps, rt⟩) (hlen : asL.length = ps.length) (hst : st = asL.reverse ++ .ref a :: rest) (W : Nat) (hW : (rest.map fun v => v.category).sum ≤ W) (hf : rm.frames + 1 ≤ R.frames) (hl : W + (maxL + 11) + rm.locals ≤ R.locals) (hcl : cells + rm.cells ≤ R.cells) (hsl : slots + rm.slots ≤ R.slots)
    (hd : decode code pc = .ok (.invokevirtual index, 3)) (q : Nat) (hq : pc + 3 = q) (k : ∀ (T' : State) (h' : Heap) (v : Option Value) (L : List Loc), Stand p l e R s m args below meth c T' (locs ++ L) (cells + rm.cells) (slots + rm.slots) → T'.heap = h' → Qc v h' L → Ends p e below s Q K N (T'.setTop (mkF m q Ls (v.toList ++ rest)))) : Ends p e below s Q K N (T.setTop (mkF m pc Ls st)) := by
  subst hq hst
  obtain ⟨cq, kq, qa, qb, qc⟩ := isOf hZ eT E
  obtain ⟨v, _, ⟨T', L', k', n'⟩, -, X', ⟨Lc, hQ, rfl, rfl, rfl⟩, st⟩ := X.virtualBack C.1 (y := y) (z := y) hown (mvT hZ w1) (mvT hZ w2) (notFace_of_selects (args := #[]) (mvT hZ w5)) (mvT hZ w5) (mvT hZ w6) hy (backOf (W := W) hM hZ w4 w3 hf hl) qa qc (g := mkF m pc Ls (asL.reverse ++ .ref a :: rest)) rfl hml.symm (Steps.refl _) (argsL := asL) (rest := rest) (lenOf pd hlen) rfl (by show 2 * 0 + _ ≤ _; omega) (hb C.2 hd) (fun _ _ => ⟨rfl, eT, hcl, hsl⟩)
  exact .step (fun _ t => st.trans t) (k T' _ v Lc X' rfl hQ)
theorem Ends.via {T0 : State} (F : JFrame) (k1 : Ends p e below s Q K N (T.setTop F) → Ends p e below s Q K N T0) (k2 : Ends p e below s Q K N (T.setTop F)) : Ends p e below s Q K N T0 := k1 k2
/-- what a callee that writes and makes nothing says: its value, the heap as it was -/
def PQ (v0 : Value) (h : Heap) : Option Value → Heap → List Loc → Prop := fun v h' L => v = some v0 ∧ L = [] ∧ h' = h
theorem o_callP (C : Cx p c code) (X : Stand p l e R s m args below meth c T locs cells slots) (hZ : Z.Warmed39 s.vm) (hml : c.maxLocals = Ls.size) {own : String} {index : Nat} {y : MethodName} {bytes : ByteArray} {maxL : Nat} {ret : Option FieldType} {rf rl : Nat} {v0 : Value} (hown : s.vm.findClass own = some m.cls)
    (w1 : (Jvm.Cond.methodLink own index y).before a0 Z = true) (w2 : (Jvm.Cond.static y).before a0 Z = true) (w3 : (Jvm.Cond.initialized y.cls).before a0 Z = true) (w4 : (Jvm.Cond.code y bytes maxL ret).before a0 Z = true) (hy : y.cls ≠ "java/lang/invoke/MethodHandle" ∧ y.cls ≠ "java/lang/invoke/VarHandle")
    {asL st : List Value} (hM : Con l Z y bytes maxL ret { frames := rf, cells := 0, slots := 0, locals := rl } 0 0 [] asL.toArray h (PQ v0 h)) (eT : T.heap = h) {ps : List FieldType} {rt : Option FieldType} (pd : parseMethodDescriptor y.desc = some ⟨ps, rt⟩) (hlen : asL.length = ps.length) (hst : st = asL.reverse ++ rest) (W : Nat) (hW : (rest.map fun v => v.category).sum ≤ W) (hf : rf + 1 ≤ R.frames) (hl : W + (maxL + 11) + rl ≤ R.locals) (hcl : cells ≤ R.cells) (hsl : slots ≤ R.slots)
    (hd : decode code pc = .ok (.invokestatic index, 3)) (q : Nat) (hq : pc + 3 = q) (k : ∀ (T' : State), Stand p l e R s m args below meth c T' locs cells slots → T'.heap = h → Ends p e below s Q K N (T'.setTop (mkF m q Ls (v0 :: rest)))) : Ends p e below s Q K N (T.setTop (mkF m pc Ls st)) := by
  refine o_callS C X hZ hml hown w1 w2 w3 w4 hy (rm := { frames := rf, cells := 0, slots := 0, locals := rl }) hM eT pd hlen hst W hW hf hl hcl hsl hd q hq ?_
  intro T' h' v L X' e' hq
  obtain ⟨rfl, rfl, hh⟩ := hq
  rw [List.append_nil] at X'
  exact k T' X' (e'.trans hh)
theorem o_callVP (C : Cx p c code) (X : Stand p l e R s m args below meth c T locs cells slots) (hZ : Z.Warmed39 s.vm) (hml : c.maxLocals = Ls.size) {own : String} {index : Nat} {y : MethodName} {bytes : ByteArray} {maxL : Nat} {ret : Option FieldType} {rf rl : Nat} {v0 : Value} (hown : s.vm.findClass own = some m.cls)
    (w1 : (Jvm.Cond.methodLink own index y).before a0 Z = true) (w2 : (Jvm.Cond.declares y).before a0 Z = true) (w5 : (Jvm.Cond.selects y.cls y y).before a0 Z = true) (w6 : (Jvm.Cond.instanceMethod y).before a0 Z = true) (w3 : (Jvm.Cond.initialized y.cls).before a0 Z = true) (w4 : (Jvm.Cond.code y bytes maxL ret).before a0 Z = true) (hy : y.cls ≠ "java/lang/invoke/MethodHandle" ∧ y.cls ≠ "java/lang/invoke/VarHandle")
    {asL st : List Value} {a : Addr} (hM : Con l Z y bytes maxL ret { frames := rf, cells := 0, slots := 0, locals := rl } 0 0 [] (.ref a :: asL).toArray h (PQ v0 h)) (eT : T.heap = h) (E : Exa Z h a y.cls) {ps : List FieldType} {rt : Option FieldType} (pd : parseMethodDescriptor y.desc = some ⟨ps, rt⟩) (hlen : asL.length = ps.length) (hst : st = asL.reverse ++ .ref a :: rest) (W : Nat) (hW : (rest.map fun v => v.category).sum ≤ W) (hf : rf + 1 ≤ R.frames) (hl : W + (maxL + 11) + rl ≤ R.locals) (hcl : cells ≤ R.cells) (hsl : slots ≤ R.slots)
    (hd : decode code pc = .ok (.invokevirtual index, 3)) (q : Nat) (hq : pc + 3 = q) (k : ∀ (T' : State), Stand p l e R s m args below meth c T' locs cells slots → T'.heap = h → Ends p e below s Q K N (T'.setTop (mkF m q Ls (v0 :: rest)))) : Ends p e below s Q K N (T.setTop (mkF m pc Ls st)) := by
  refine o_callV C X hZ hml hown w1 w2 w5 w6 w3 w4 hy (rm := { frames := rf, cells := 0, slots := 0, locals := rl }) hM eT E pd hlen hst W hW hf hl hcl hsl hd q hq ?_
  intro T' h' v L X' e' hq
  obtain ⟨rfl, rfl, hh⟩ := hq
  rw [List.append_nil] at X'
  exact k T' X' (e'.trans hh)
theorem o_new (C : Cx p c code) (X : Stand p l e R s m args below meth c T locs cells slots) (hZ : Z.Warmed39 s.vm) {own Cn : String} {index n : Nat} (hown : s.vm.findClass own = some m.cls) (w : (Jvm.Cond.classLink own index Cn).before a0 Z = true) (wi : (Jvm.Cond.instantiable Cn n).before a0 Z = true) (wz : (Jvm.Cond.initialized Cn).before a0 Z = true) (eT : T.heap = h) (hd : decode code pc = .ok (.new index, 3)) (hc : cells + 1 ≤ R.cells) (hl : slots + n ≤ R.slots) (q : Nat) (hq : pc + 3 = q)
    (k : ∀ (T' : State) (h' : Heap) (a : Addr), a = h.size → Stand p l e R s m args below meth c T' locs (cells + 1) (slots + n) → T'.heap = h' → Ext h h' → Exa Z h' a Cn → (∀ {O nm d : String} {ty : FieldType}, Laid Z a0 Cn O nm d → parseFieldDescriptor d = some ty → Fld Z h' a O nm d (defaultValue ty)) → Ends p e below s Q K N (T'.setTop (mkF m q Ls (.ref a :: rest)))) : Ends p e below s Q K N (T.setTop (mkF m pc Ls rest)) := by
  subst hq
  obtain ⟨T', h', X', e', E, A, D, -, st⟩ := newO X C.1 hZ hown w wi wz eT (g := mkF m pc Ls rest) rfl (hb C.2 hd) hc hl
  exact .step st (k T' h' _ rfl X' e' E A D)
theorem o_getF (C : Cx p c code) (X : Stand p l e R s m args below meth c T locs cells slots) (hZ : Z.Warmed39 s.vm) {own R0 O n d : String} {index : Nat} (hown : s.vm.findClass own = some m.cls) (w : (Jvm.Cond.fieldLink own index R0 n d).before a0 Z = true) (via : Via Z R0 O n d) (eT : T.heap = h) {a : Addr} {v : Value} (F : Fld Z h a O n d v) (hd : decode code pc = .ok (.getfield index, 3)) (q : Nat) (hq : pc + 3 = q)
    (k : ∀ (T' : State), Stand p l e R s m args below meth c T' locs cells slots → T'.heap = h → Ends p e below s Q K N (T'.setTop (mkF m q Ls (v :: rest)))) : Ends p e below s Q K N (T.setTop (mkF m pc Ls (.ref a :: rest))) := by
  subst hq
  obtain ⟨T', X', e', st⟩ := getF X C.1 hZ hown (host := "") (Or.inl w) via eT F (g := mkF m pc Ls (.ref a :: rest)) rfl rfl (hb C.2 hd)
  exact .step st (k T' X' e')
theorem o_putF (C : Cx p c code) (X : Stand p l e R s m args below meth c T locs cells slots) (hZ : Z.Warmed39 s.vm) {own R0 O n d Cn : String} {index kk : Nat} {ty : FieldType} (hown : s.vm.findClass own = some m.cls) (w : (Jvm.Cond.fieldLink own index R0 n d).before a0 Z = true) (via : Via Z R0 O n d) (eT : T.heap = h) {a : Addr} {v old : Value} (F : Fld Z h a O n d old) (E : Exa Z h a Cn) (L : (Jvm.Cond.lays Cn O n d).before a0 Z = true ∨ ((Jvm.Cond.laysFinal Cn O n d).before a0 Z = true ∧ own = O ∧ meth.name = "<init>")) (wi : (Jvm.Cond.instantiable Cn kk).before a0 Z = true) (hty : parseFieldDescriptor d = some ty) (hn : narrow ty v = v) (hf : fits ty v = true) (hd : decode code pc = .ok (.putfield index, 3)) (q : Nat) (hq : pc + 3 = q) {n0 : Nat} (N0 : Fr n0 locs) (ha : n0 ≤ a)
    (k : ∀ (T' : State) (h' : Heap) (locs' : List Loc), Stand p l e R s m args below meth c T' locs' cells slots → T'.heap = h' → Wr h h' a (Jvm.RoadKit.slotOf Z O n d) v → Fr n0 locs' → Ends p e below s Q K N (T'.setTop (mkF m q Ls rest))) : Ends p e below s Q K N (T.setTop (mkF m pc Ls (v :: .ref a :: rest))) := by
  subst hq
  obtain ⟨T', h', X', e', W, st⟩ := putF X C.1 hZ hown (host := "") (Or.inl w) via eT F E L wi hty hn hf (g := mkF m pc Ls (v :: .ref a :: rest)) rfl rfl (hb C.2 hd)
  exact .step st (k T' h' _ X' e' W (Fr.snoc X' N0 ha))
theorem o_initO (C : Cx p c code) (X : Stand p l e R s m args below meth c T locs cells slots) (hZ : Z.Warmed39 s.vm) (hml : c.maxLocals = Ls.size) {own : String} {idx : Nat} (hown : s.vm.findClass own = some m.cls) (w1 : (Jvm.Cond.methodLink own idx Lib.objectInit).before a0 Z = true) (w2 : (Jvm.Cond.instanceMethod Lib.objectInit).before a0 Z = true) (w3 : (Jvm.Cond.code Lib.objectInit object_method_1_code 1 none).before a0 Z = true) (eT : T.heap = h) {a : Addr} (W : Nat) (hW : (rest.map fun v => v.category).sum ≤ W) (hf : 1 ≤ R.frames) (hl : W + 12 ≤ R.locals) (hd : decode code pc = .ok (.invokespecial idx, 3)) (q : Nat) (hq : pc + 3 = q)
    (k : ∀ (T' : State), Stand p l e R s m args below meth c T' locs cells slots → T'.heap = h → Ends p e below s Q K N (T'.setTop (mkF m q Ls rest))) : Ends p e below s Q K N (T.setTop (mkF m pc Ls (.ref a :: rest))) := by
  subst hq
  obtain ⟨T', X', e', st⟩ := initO X C.1 hZ hown w1 w2 w3 eT (g := mkF m pc Ls (.ref a :: rest)) rfl hml.symm rfl (hb C.2 hd) hf (W := W) (by show 2 * 0 + _ ≤ _; omega) hl
  exact .step st (k T' X' e')
/-- the array at a has n places; the place j holds the int f j -/
def AI (Z : State) (h : Heap) (a : Addr) (ty : FieldType) (n : Nat) (f : Nat → Int32) : Prop := ∃ cl : Cell, Arr Z h a cl ty ∧ cl.slots.size = n ∧ n < 2 ^ 31 ∧ ∀ j, j < n → cl.slots[j]? = some (.int (f j))
theorem AI.lt {a : Addr} {ty : FieldType} {n : Nat} {f : Nat → Int32} (A : AI Z h a ty n f) : a < h.size := by
  obtain ⟨cl, A, -⟩ := A; exact A.lt
theorem AI.ext {h' : Heap} {a : Addr} {ty : FieldType} {n : Nat} {f : Nat → Int32} (A : AI Z h a ty n f) (E : Ext h h') : AI Z h' a ty n f := by
  obtain ⟨cl, A, B⟩ := A; exact ⟨cl, A.ext E, B⟩
theorem AI.other {h' : Heap} {a b : Addr} {ty : FieldType} {n sl : Nat} {v : Value} {f : Nat → Int32} (A : AI Z h b ty n f) (W : Wr h h' a sl v) (q : b ≠ a) : AI Z h' b ty n f := by
  obtain ⟨cl, A, B⟩ := A; exact ⟨cl, A.other W q, B⟩
theorem AI.keep {h' : Heap} {a : Addr} {ty : FieldType} {n : Nat} {f : Nat → Int32} {ws : List Addr} (A : AI Z h a ty n f) (k : Keep h h' ws) (q : a ∉ ws) : AI Z h' a ty n f := by
  obtain ⟨cl, ⟨A1, A2⟩, B⟩ := A; exact ⟨cl, ⟨k.2.1 _ _ A1 q, A2⟩, B⟩
theorem AI.wr {h' : Heap} {a : Addr} {ty : FieldType} {n i : Nat} {v : Int32} {f : Nat → Int32} (A : AI Z h a ty n f) (W : Wr h h' a i (.int v)) (hi : i < n) : AI Z h' a ty n (fun j => if j = i then v else f j) := by
  obtain ⟨cl, A, S, M, B⟩ := A
  refine ⟨_, A.same W, by rw [sz_set]; exact S, M, fun j hj => ?_⟩
  show (cl.slots.setIfInBounds i (.int v))[j]? = _
  rw [Array.getElem?_setIfInBounds]
  by_cases q : i = j
  · subst q; rw [if_pos rfl, if_pos (by rw [S]; exact hi)]; dsimp only; rw [if_pos rfl]
  · rw [if_neg q, B j hj]; dsimp only; rw [if_neg (fun r => q r.symm)]
theorem AI.congr {a : Addr} {ty : FieldType} {n : Nat} {f g : Nat → Int32} (A : AI Z h a ty n f) (q : ∀ j, j < n → f j = g j) : AI Z h a ty n g := by
  obtain ⟨cl, A, S, M, B⟩ := A
  exact ⟨cl, A, S, M, fun j hj => by rw [B j hj, q j hj]⟩
theorem AI.ne {a b : Addr} {ty : FieldType} {n : Nat} {f : Nat → Int32} (A : AI Z h a ty n f) (q : b = h.size) : a ≠ b := fun r => by
  have := A.lt; rw [r, q] at this; exact Nat.lt_irrefl _ this
theorem own_idx {m : Nat} {j : Int32} {i n : Nat} (hj : j.toInt = i) (hi : i < n) (S : m = n) : ¬ (j < 0 ∨ m ≤ j.toNatClampNeg) ∧ j.toNatClampNeg = i := by
  have e1 : j.toNatClampNeg = i := by rw [Int32.toNatClampNeg, hj]; rfl
  refine ⟨?_, e1⟩
  rw [e1, S, Int32.lt_iff_toInt_lt, hj, show (0 : Int32).toInt = 0 from rfl]
  omega
theorem o_iaload (C : Cx p c code) (X : Stand p l e R s m args below meth c T locs cells slots) (hZ : Z.Warmed39 s.vm) (eT : T.heap = h) {a : Addr} {n : Nat} {f : Nat → Int32} (A : AI Z h a .int n f) {j : Int32} (i : Nat) (hj : j.toInt = i) (hi : i < n) (hd : decode code pc = .ok (.iaload, 1)) (q : Nat) (hq : pc + 1 = q) (k : Ends p e below s Q K N (T.setTop (mkF m q Ls (.int (f i) :: rest)))) : Ends p e below s Q K N (T.setTop (mkF m pc Ls (.int j :: .ref a :: rest))) := by
  subst hq
  obtain ⟨cl, A, S, M, B⟩ := A
  obtain ⟨q1, q2⟩ := own_idx hj hi S
  exact .step (fun t kt => X.iaload C.1 (j := j) (v := .int (f i)) (by rw [eT]; exact A.1) (State.isArrayOf_alike hZ.alike A.2.1) A.2.2 q1 (by rw [q2]; exact B i hi) (g := mkF m pc Ls (.int j :: .ref a :: rest)) rfl rfl (hb C.2 hd) t kt) k
theorem o_baload (C : Cx p c code) (X : Stand p l e R s m args below meth c T locs cells slots) (hZ : Z.Warmed39 s.vm) (eT : T.heap = h) {a : Addr} {n : Nat} {f : Nat → Int32} (A : AI Z h a .byte n f) {j : Int32} (i : Nat) (hj : j.toInt = i) (hi : i < n) (hd : decode code pc = .ok (.baload, 1)) (q : Nat) (hq : pc + 1 = q) (k : Ends p e below s Q K N (T.setTop (mkF m q Ls (.int (f i) :: rest)))) : Ends p e below s Q K N (T.setTop (mkF m pc Ls (.int j :: .ref a :: rest))) := by
  subst hq
  obtain ⟨cl, A, S, M, B⟩ := A
  obtain ⟨q1, q2⟩ := own_idx hj hi S
  exact .step (fun t kt => X.baloadBytes C.1 (j := j) (v := .int (f i)) (by rw [eT]; exact A.1) (State.isArrayOf_alike hZ.alike A.2.1) A.2.2 q1 (by rw [q2]; exact B i hi) (g := mkF m pc Ls (.int j :: .ref a :: rest)) rfl rfl (hb C.2 hd) t kt) k
theorem o_arraylength (C : Cx p c code) (X : Stand p l e R s m args below meth c T locs cells slots) (hZ : Z.Warmed39 s.vm) (eT : T.heap = h) {a : Addr} {ty : FieldType} {n : Nat} {f : Nat → Int32} (A : AI Z h a ty n f) (v : Int32) (hv : n.toInt32 = v) (hd : decode code pc = .ok (.arraylength, 1)) (q : Nat) (hq : pc + 1 = q) (k : Ends p e below s Q K N (T.setTop (mkF m q Ls (.int v :: rest)))) : Ends p e below s Q K N (T.setTop (mkF m pc Ls (.ref a :: rest))) := by
  subst hq hv
  obtain ⟨cl, A, rfl, M, B⟩ := A
  exact .step (fun t kt => X.arraylength C.1 (by rw [eT]; exact A.1) (State.isArrayOf_alike hZ.alike A.2.1) (g := mkF m pc Ls (.ref a :: rest)) rfl (rest := rest) rfl (hb C.2 hd) t kt) k
theorem o_iastore (C : Cx p c code) (X : Stand p l e R s m args below meth c T locs cells slots) (hZ : Z.Warmed39 s.vm) (eT : T.heap = h) {a : Addr} {n : Nat} {f : Nat → Int32} (A : AI Z h a .int n f) {j x : Int32} (i : Nat) (hj : j.toInt = i) (hi : i < n) (hd : decode code pc = .ok (.iastore, 1)) (q : Nat) (hq : pc + 1 = q) {n0 : Nat} (N0 : Fr n0 locs) (ha : n0 ≤ a)
    (k : ∀ (T' : State) (h' : Heap) (locs' : List Loc), Stand p l e R s m args below meth c T' locs' cells slots → T'.heap = h' → Wr h h' a i (.int x) → Fr n0 locs' → AI Z h' a .int n (fun j => if j = i then x else f j) → Ends p e below s Q K N (T'.setTop (mkF m q Ls rest))) : Ends p e below s Q K N (T.setTop (mkF m pc Ls (.int x :: .int j :: .ref a :: rest))) := by
  subst hq
  obtain ⟨cl, A', S, M, B⟩ := A
  obtain ⟨q1, q2⟩ := own_idx hj hi S
  obtain ⟨T', h', X', e', W, st⟩ := stI X C.1 hZ eT A' (j := j) (x := x) q1 (g := mkF m pc Ls (.int x :: .int j :: .ref a :: rest)) rfl rfl (hb C.2 hd)
  rw [q2] at W
  exact .step st (k T' h' _ X' e' W (Fr.snoc X' N0 ha) (AI.wr ⟨cl, A', S, M, B⟩ W hi))
theorem o_bastore (C : Cx p c code) (X : Stand p l e R s m args below meth c T locs cells slots) (hZ : Z.Warmed39 s.vm) (eT : T.heap = h) {a : Addr} {n : Nat} {f : Nat → Int32} (A : AI Z h a .byte n f) {j x : Int32} (i : Nat) (hj : j.toInt = i) (hi : i < n) (hd : decode code pc = .ok (.bastore, 1)) (q : Nat) (hq : pc + 1 = q) {n0 : Nat} (N0 : Fr n0 locs) (ha : n0 ≤ a)
    (k : ∀ (T' : State) (h' : Heap) (locs' : List Loc), Stand p l e R s m args below meth c T' locs' cells slots → T'.heap = h' → Wr h h' a i (.int (nar .byte x)) → Fr n0 locs' → AI Z h' a .byte n (fun j => if j = i then (nar .byte x) else f j) → Ends p e below s Q K N (T'.setTop (mkF m q Ls rest))) : Ends p e below s Q K N (T.setTop (mkF m pc Ls (.int x :: .int j :: .ref a :: rest))) := by
  subst hq
  obtain ⟨cl, A', S, M, B⟩ := A
  obtain ⟨q1, q2⟩ := own_idx hj hi S
  obtain ⟨T', h', X', e', W, st⟩ := stB X C.1 hZ eT A' (j := j) (x := x) q1 (g := mkF m pc Ls (.int x :: .int j :: .ref a :: rest)) rfl rfl (hb C.2 hd)
  rw [q2] at W
  exact .step st (k T' h' _ X' e' W (Fr.snoc X' N0 ha) (AI.wr ⟨cl, A', S, M, B⟩ W hi))
theorem o_newarrayI (C : Cx p c code) (X : Stand p l e R s m args below meth c T locs cells slots) (hZ : Z.Warmed39 s.vm) (w : (Jvm.Cond.arrayClass .int).before a0 Z = true) (eT : T.heap = h) {z : Int32} (n : Nat) (hz : z.toInt = n) (cap : Nat) (hcap : n ≤ cap) (hb8 : cap * 8 ≤ 536870912) (hc : cells + 1 ≤ R.cells) (hl : slots + cap ≤ R.slots) (hd : decode code pc = .ok (.newarray .int, 2)) (q : Nat) (hq : pc + 2 = q)
    (k : ∀ (T' : State) (h' : Heap) (a : Addr), a = h.size → Stand p l e R s m args below meth c T' locs (cells + 1) (slots + cap) → T'.heap = h' → Ext h h' → AI Z h' a .int n (fun _ => 0) → Ends p e below s Q K N (T'.setTop (mkF m q Ls (.ref a :: rest)))) : Ends p e below s Q K N (T.setTop (mkF m pc Ls (.int z :: rest))) := by
  subst hq
  have hn : ¬ z < 0 := by rw [Int32.lt_iff_toInt_lt, hz, show (0 : Int32).toInt = 0 from rfl]; omega
  have e1 : z.toNatClampNeg = n := by rw [Int32.toNatClampNeg, hz]; rfl
  have hr := Int32.toInt_lt z
  obtain ⟨T', h', cA, X', e', E, A, st⟩ := newP X C.1 hZ (aty := .int) w eT (g := mkF m pc Ls (.int z :: rest)) rfl (hb C.2 hd) (n := z) (rest := rest) rfl hn (cap := cap) (by rw [e1]; exact hcap) hb8 hc hl
  refine .step st (k T' h' _ rfl X' e' E ⟨_, A, by rw [sz_new, e1], by omega, fun j hj => ?_⟩)
  simp only [newA, e1]
  rw [Array.getElem?_replicate, if_pos hj]; rfl
theorem o_newarrayB (C : Cx p c code) (X : Stand p l e R s m args below meth c T locs cells slots) (hZ : Z.Warmed39 s.vm) (w : (Jvm.Cond.arrayClass .byte).before a0 Z = true) (eT : T.heap = h) {z : Int32} (n : Nat) (hz : z.toInt = n) (cap : Nat) (hcap : n ≤ cap) (hb8 : cap * 8 ≤ 536870912) (hc : cells + 1 ≤ R.cells) (hl : slots + cap ≤ R.slots) (hd : decode code pc = .ok (.newarray .byte, 2)) (q : Nat) (hq : pc + 2 = q)
    (k : ∀ (T' : State) (h' : Heap) (a : Addr), a = h.size → Stand p l e R s m args below meth c T' locs (cells + 1) (slots + cap) → T'.heap = h' → Ext h h' → AI Z h' a .byte n (fun _ => 0) → Ends p e below s Q K N (T'.setTop (mkF m q Ls (.ref a :: rest)))) : Ends p e below s Q K N (T.setTop (mkF m pc Ls (.int z :: rest))) := by
  subst hq
  have hn : ¬ z < 0 := by rw [Int32.lt_iff_toInt_lt, hz, show (0 : Int32).toInt = 0 from rfl]; omega
  have e1 : z.toNatClampNeg = n := by rw [Int32.toNatClampNeg, hz]; rfl
  have hr := Int32.toInt_lt z
  obtain ⟨T', h', cA, X', e', E, A, st⟩ := newP X C.1 hZ (aty := .byte) w eT (g := mkF m pc Ls (.int z :: rest)) rfl (hb C.2 hd) (n := z) (rest := rest) rfl hn (cap := cap) (by rw [e1]; exact hcap) hb8 hc hl
  refine .step st (k T' h' _ rfl X' e' E ⟨_, A, by rw [sz_new, e1], by omega, fun j hj => ?_⟩)
  simp only [newA, e1]
  rw [Array.getElem?_replicate, if_pos hj]; rfl
end Own
section OwnPriv
variable {p : Program} {l : Launch} {e : Env} {R : Room} {s : State} {m : MethodId} {args : Array Value} {below : List Frame} {meth : Method} {c : Code} {T : State} {locs : List Loc} {cells slots : Nat} {Z : State} {a0 : Array Value} {h : Heap} {Q : Option Value → Heap → List Loc → Prop} {K N pc : Nat} {Ls : Array Slot} {code : ByteArray} {rest : List Value}
theorem o_callPr (C : Cx p c code) (X : Stand p l e R s m args below meth c T locs cells slots) (hZ : Z.Warmed39 s.vm) (hml : c.maxLocals = Ls.size) {own : String} {index : Nat} {y : MethodName} {bytes : ByteArray} {maxL : Nat} {ret : Option FieldType} {rm : Room} {Qc : Option Value → Heap → List Loc → Prop} (hown : s.vm.findClass own = some m.cls) (w1 : (Jvm.Cond.methodLink own index y).before a0 Z = true) (w6 : (Jvm.Cond.instanceMethod y).before a0 Z = true) (wp : (Jvm.Cond.privateMethod y).before a0 Z = true) {y' : MethodName} (ws : (Jvm.Cond.selects y'.cls y' y').before a0 Z = true) (hyc : y'.cls = y.cls) (w3 : (Jvm.Cond.initialized y.cls).before a0 Z = true) (w4 : (Jvm.Cond.code y bytes maxL ret).before a0 Z = true) (hy : y.cls ≠ "java/lang/invoke/MethodHandle" ∧ y.cls ≠ "java/lang/invoke/VarHandle")
    {asL st : List Value} {a : Addr} (hM : Con l Z y bytes maxL ret rm rm.cells rm.slots [] (.ref a :: asL).toArray h Qc) (eT : T.heap = h) (E : Exa Z h a y.cls) {ps : List FieldType} {rt : Option FieldType} (pd : parseMethodDescriptor y.desc = some ⟨ps, rt⟩) (hlen : asL.length = ps.length) (hst : st = asL.reverse ++ .ref a :: rest) (W : Nat) (hW : (rest.map fun v => v.category).sum ≤ W) (hf : rm.frames + 1 ≤ R.frames) (hl : W + (maxL + 11) + rm.locals ≤ R.locals) (hcl : cells + rm.cells ≤ R.cells) (hsl : slots + rm.slots ≤ R.slots)
    (hd : decode code pc = .ok (.invokevirtual index, 3)) (q : Nat) (hq : pc + 3 = q) (k : ∀ (T' : State) (h' : Heap) (v : Option Value) (L : List Loc), Stand p l e R s m args below meth c T' (locs ++ L) (cells + rm.cells) (slots + rm.slots) → T'.heap = h' → Qc v h' L → Ends p e below s Q K N (T'.setTop (mkF m q Ls (v.toList ++ rest)))) : Ends p e below s Q K N (T.setTop (mkF m pc Ls st)) := by
  subst hq hst
  have hs : (Jvm.Cond.selects y'.cls y' y').before args s = true := mvT hZ ws
  obtain ⟨c2, r2, m2, -, -, q3, -, kP, hkP, hkPi⟩ := Cond.selects_spec hs
  have hc := findClass_of_methodNamed q3
  rw [hyc] at hc
  have hpriv : s.PrivateAt y := Cond.privateMethod_at (mvP hZ wp (args := #[]))
  have hsel : (Jvm.Cond.selects y.cls y y).before args s = true := selects_self_of_private hc hkP hkPi hpriv (mvT hZ w6) hy
  obtain ⟨cq, qa, qb⟩ := E.cell
  obtain ⟨v, _, ⟨T', L', k', n'⟩, -, X', ⟨Lc, hQ, rfl, rfl, rfl⟩, st⟩ := X.privateBack C.1 (y := y) hown (mvT hZ w1) (mvT hZ w6) hsel hpriv (mvT hZ w4) hy (backOf (W := W) hM hZ w4 w3 hf hl) (g := mkF m pc Ls (asL.reverse ++ .ref a :: rest)) rfl hml.symm (Steps.refl _) (a := a) (by rw [eT]; exact qa) qb (argsL := asL) (rest := rest) (lenOf pd hlen) rfl (by show 2 * 0 + _ ≤ _; omega) (hb C.2 hd) (fun _ _ => ⟨rfl, eT, hcl, hsl⟩)
  exact .step (fun _ t => st.trans t) (k T' _ v Lc X' rfl hQ)
theorem o_callPrP (C : Cx p c code) (X : Stand p l e R s m args below meth c T locs cells slots) (hZ : Z.Warmed39 s.vm) (hml : c.maxLocals = Ls.size) {own : String} {index : Nat} {y : MethodName} {bytes : ByteArray} {maxL : Nat} {ret : Option FieldType} {rf rl : Nat} {v0 : Value} (hown : s.vm.findClass own = some m.cls) (w1 : (Jvm.Cond.methodLink own index y).before a0 Z = true) (w6 : (Jvm.Cond.instanceMethod y).before a0 Z = true) (wp : (Jvm.Cond.privateMethod y).before a0 Z = true) {y' : MethodName} (ws : (Jvm.Cond.selects y'.cls y' y').before a0 Z = true) (hyc : y'.cls = y.cls) (w3 : (Jvm.Cond.initialized y.cls).before a0 Z = true) (w4 : (Jvm.Cond.code y bytes maxL ret).before a0 Z = true) (hy : y.cls ≠ "java/lang/invoke/MethodHandle" ∧ y.cls ≠ "java/lang/invoke/VarHandle")
    {asL st : List Value} {a : Addr} (hM : Con l Z y bytes maxL ret { frames := rf, cells := 0, slots := 0, locals := rl } 0 0 [] (.ref a :: asL).toArray h (PQ v0 h)) (eT : T.heap = h) (E : Exa Z h a y.cls) {ps : List FieldType} {rt : Option FieldType} (pd : parseMethodDescriptor y.desc = some ⟨ps, rt⟩) (hlen : asL.length = ps.length) (hst : st = asL.reverse ++ .ref a :: rest) (W : Nat) (hW : (rest.map fun v => v.category).sum ≤ W) (hf : rf + 1 ≤ R.frames) (hl : W + (maxL + 11) + rl ≤ R.locals) (hcl : cells ≤ R.cells) (hsl : slots ≤ R.slots)
    (hd : decode code pc = .ok (.invokevirtual index, 3)) (q : Nat) (hq : pc + 3 = q) (k : ∀ (T' : State), Stand p l e R s m args below meth c T' locs cells slots → T'.heap = h → Ends p e below s Q K N (T'.setTop (mkF m q Ls (v0 :: rest)))) : Ends p e below s Q K N (T.setTop (mkF m pc Ls st)) := by
  refine o_callPr C X hZ hml hown w1 w6 wp ws hyc w3 w4 hy (rm := { frames := rf, cells := 0, slots := 0, locals := rl }) hM eT E pd hlen hst W hW hf hl hcl hsl hd q hq ?_
  intro T' h' v L X' e' hq
  obtain ⟨rfl, rfl, hh⟩ := hq
  rw [List.append_nil] at X'
  exact k T' X' (e'.trans hh)
end OwnPriv
theorem own_of {v : Int32} {j : Nat} (h : v.toInt = j) : v = Int32.ofNat j := by
  apply Int32.toInt_inj.mp
  have := rng32 v
  rw [h, Int32.toInt_ofNat_of_lt (by omega)]
theorem own_to {j : Nat} (h : j < 1000) : (Int32.ofNat j).toInt = j := Int32.toInt_ofNat_of_lt (by omega)
theorem own_add {v w : Int32} {j k : Nat} (h : v.toInt = j) (h' : w.toInt = k) (hj : j < 2000) (hk : k < 2000) : (v + w).toInt = ((j + k : Nat) : Int) := by
  have := c_iadd v w
  have r := rng32 (v + w)
  omega
theorem own_lt {v w : Int32} {j k : Nat} (h : v.toInt = j) (h' : w.toInt = k) (q : j < k) : v < w := by rw [Int32.lt_iff_toInt_lt]; omega
theorem own_ge {v w : Int32} {j k : Nat} (h : v.toInt = j) (h' : w.toInt = k) (q : k ≤ j) : ¬ v < w := by rw [Int32.lt_iff_toInt_lt]; omega
theorem d7_0 : decode prog_23_method_19_code 0 = .ok (.iload_n 0, 1) := by decide +kernel
theorem d7_1 : decode prog_23_method_19_code 1 = .ok (.bipush 32, 2) := by decide +kernel
theorem d7_3 : decode prog_23_method_19_code 3 = .ok (.if_icmp .eq 21, 3) := by decide +kernel
theorem d7_6 : decode prog_23_method_19_code 6 = .ok (.iload_n 0, 1) := by decide +kernel
theorem d7_7 : decode prog_23_method_19_code 7 = .ok (.bipush 9, 2) := by decide +kernel
theorem d7_9 : decode prog_23_method_19_code 9 = .ok (.if_icmp .eq 15, 3) := by decide +kernel
theorem d7_12 : decode prog_23_method_19_code 12 = .ok (.iload_n 0, 1) := by decide +kernel
theorem d7_13 : decode prog_23_method_19_code 13 = .ok (.bipush 10, 2) := by decide +kernel
theorem d7_15 : decode prog_23_method_19_code 15 = .ok (.if_icmp .eq 9, 3) := by decide +kernel
theorem d7_18 : decode prog_23_method_19_code 18 = .ok (.iload_n 0, 1) := by decide +kernel
theorem d7_19 : decode prog_23_method_19_code 19 = .ok (.bipush 13, 2) := by decide +kernel
theorem d7_21 : decode prog_23_method_19_code 21 = .ok (.if_icmp .ne 7, 3) := by decide +kernel
theorem d7_24 : decode prog_23_method_19_code 24 = .ok (.iconst 1, 1) := by decide +kernel
theorem d7_25 : decode prog_23_method_19_code 25 = .ok (.goto 4, 3) := by decide +kernel
theorem d7_28 : decode prog_23_method_19_code 28 = .ok (.iconst 0, 1) := by decide +kernel
theorem d7_29 : decode prog_23_method_19_code 29 = .ok (.ireturn, 1) := by decide +kernel
theorem pn_7 : plainFor (⟨"com/example/one_lookup/onelookup/json/JsonMembers", "isSpace", "(B)Z"⟩ : MethodName) = true := by first | exact plainFor_of_name (by first | (simp [plainName, overriddenIn]; done) | decide +kernel) | decide +kernel
theorem ef_7 (m : MethodId) (u0 : Int32) : entryFrame m #[(.int u0)] 1 = (mkF m 0 #[.val (.int u0)] []) := by first | (simp [entryFrame, mkF, argsToLocals, Value.category]; done) | rfl
def FSp (u0 : Int32) : Int32 := (if u0 = (32 : Int32) then (1 : Int32) else (if u0 = (9 : Int32) then (1 : Int32) else (if u0 = (10 : Int32) then (1 : Int32) else (if u0 = (13 : Int32) then (1 : Int32) else (0 : Int32)))))
set_option maxRecDepth 65536 in
set_option maxHeartbeats 40000000 in
theorem rm7 (l : Launch) (Z : State) (a0 : Array Value) (hw : ∀ d ∈ tables_1, d.before a0 Z = true) (u0 : Int32) (h0 : Heap) : Con l Z (⟨"com/example/one_lookup/onelookup/json/JsonMembers", "isSpace", "(B)Z"⟩ : MethodName) prog_23_method_19_code 1 (some .boolean) ({ frames := 0, cells := 0, slots := 0, locals := 0 } : Room) 0 0 [] #[(.int u0)] h0 (PQ (.int (FSp u0)) h0) := by
  refine Con.of pn_7 ?_
  intro p e s m below meth c T C hZ hml hown hret hnm hlk X e0
  rw [ef_7]
  refine o_iloadN C X d7_0 1 rfl rfl ?_
  refine o_bipush C X d7_1 3 rfl (32 : Int32) (by decide) ?_
  by_cases q1 : u0 = (32 : Int32)
  · skip
    refine o_icmpY C X d7_3 24 (by decide) (by decide) (teq q1).1 ?_
    refine o_iconst C X d7_24 25 rfl (1 : Int32) (by decide) ?_
    refine o_goto C X d7_25 29 (by decide) (by decide) ?_
    refine o_retN C X hret (by simp) hlk d7_29 ⟨congrArg some (congrArg _ (by rw [FSp]; simp only [if_pos q1] <;> rfl)), rfl, e0⟩ (Nat.le_refl _) (Nat.le_refl _)
  · skip
    refine o_icmpN C X d7_3 6 rfl (feq q1).1 ?_
    refine o_iloadN C X d7_6 7 rfl rfl ?_
    refine o_bipush C X d7_7 9 rfl (9 : Int32) (by decide) ?_
    by_cases q2 : u0 = (9 : Int32)
    · skip
      refine o_icmpY C X d7_9 24 (by decide) (by decide) (teq q2).1 ?_
      refine o_iconst C X d7_24 25 rfl (1 : Int32) (by decide) ?_
      refine o_goto C X d7_25 29 (by decide) (by decide) ?_
      refine o_retN C X hret (by simp) hlk d7_29 ⟨congrArg some (congrArg _ (by rw [FSp]; simp only [if_neg q1, if_pos q2] <;> rfl)), rfl, e0⟩ (Nat.le_refl _) (Nat.le_refl _)
    · skip
      refine o_icmpN C X d7_9 12 rfl (feq q2).1 ?_
      refine o_iloadN C X d7_12 13 rfl rfl ?_
      refine o_bipush C X d7_13 15 rfl (10 : Int32) (by decide) ?_
      by_cases q3 : u0 = (10 : Int32)
      · skip
        refine o_icmpY C X d7_15 24 (by decide) (by decide) (teq q3).1 ?_
        refine o_iconst C X d7_24 25 rfl (1 : Int32) (by decide) ?_
        refine o_goto C X d7_25 29 (by decide) (by decide) ?_
        refine o_retN C X hret (by simp) hlk d7_29 ⟨congrArg some (congrArg _ (by rw [FSp]; simp only [if_neg q1, if_neg q2, if_pos q3] <;> rfl)), rfl, e0⟩ (Nat.le_refl _) (Nat.le_refl _)
      · skip
        refine o_icmpN C X d7_15 18 rfl (feq q3).1 ?_
        refine o_iloadN C X d7_18 19 rfl rfl ?_
        refine o_bipush C X d7_19 21 rfl (13 : Int32) (by decide) ?_
        by_cases q4 : u0 = (13 : Int32)
        · skip
          refine o_icmpN C X d7_21 24 rfl (teq q4).2 ?_
          refine o_iconst C X d7_24 25 rfl (1 : Int32) (by decide) ?_
          refine o_goto C X d7_25 29 (by decide) (by decide) ?_
          refine o_retN C X hret (by simp) hlk d7_29 ⟨congrArg some (congrArg _ (by rw [FSp]; simp only [if_neg q1, if_neg q2, if_neg q3, if_pos q4] <;> rfl)), rfl, e0⟩ (Nat.le_refl _) (Nat.le_refl _)
        · skip
          refine o_icmpY C X d7_21 28 (by decide) (by decide) (feq q4).2 ?_
          refine o_iconst C X d7_28 29 rfl (0 : Int32) (by decide) ?_
          refine o_retN C X hret (by simp) hlk d7_29 ⟨congrArg some (congrArg _ (by rw [FSp]; simp only [if_neg q1, if_neg q2, if_neg q3, if_neg q4] <;> rfl)), rfl, e0⟩ (Nat.le_refl _) (Nat.le_refl _)
theorem pd_0 : parseMethodDescriptor "(B)Z" = some ⟨[.byte], some .boolean⟩ := by decide +kernel
theorem d12_0 : decode prog_23_method_18_code 0 = .ok (.iload_n 0, 1) := by decide +kernel
theorem d12_1 : decode prog_23_method_18_code 1 = .ok (.bipush 44, 2) := by decide +kernel
theorem d12_3 : decode prog_23_method_18_code 3 = .ok (.if_icmp .eq 22, 3) := by decide +kernel
theorem d12_6 : decode prog_23_method_18_code 6 = .ok (.iload_n 0, 1) := by decide +kernel
theorem d12_7 : decode prog_23_method_18_code 7 = .ok (.bipush 125, 2) := by decide +kernel
theorem d12_9 : decode prog_23_method_18_code 9 = .ok (.if_icmp .eq 16, 3) := by decide +kernel
theorem d12_12 : decode prog_23_method_18_code 12 = .ok (.iload_n 0, 1) := by decide +kernel
theorem d12_13 : decode prog_23_method_18_code 13 = .ok (.bipush 93, 2) := by decide +kernel
theorem d12_15 : decode prog_23_method_18_code 15 = .ok (.if_icmp .eq 10, 3) := by decide +kernel
theorem d12_18 : decode prog_23_method_18_code 18 = .ok (.iload_n 0, 1) := by decide +kernel
theorem d12_19 : decode prog_23_method_18_code 19 = .ok (.invokestatic 112, 3) := by decide +kernel
theorem d12_22 : decode prog_23_method_18_code 22 = .ok (.ifCond .eq 7, 3) := by decide +kernel
theorem d12_25 : decode prog_23_method_18_code 25 = .ok (.iconst 1, 1) := by decide +kernel
theorem d12_26 : decode prog_23_method_18_code 26 = .ok (.goto 4, 3) := by decide +kernel
theorem d12_29 : decode prog_23_method_18_code 29 = .ok (.iconst 0, 1) := by decide +kernel
theorem d12_30 : decode prog_23_method_18_code 30 = .ok (.ireturn, 1) := by decide +kernel
theorem pn_12 : plainFor (⟨"com/example/one_lookup/onelookup/json/JsonMembers", "endsScalar", "(B)Z"⟩ : MethodName) = true := by first | exact plainFor_of_name (by first | (simp [plainName, overriddenIn]; done) | decide +kernel) | decide +kernel
theorem ef_12 (m : MethodId) (u0 : Int32) : entryFrame m #[(.int u0)] 1 = (mkF m 0 #[.val (.int u0)] []) := by first | (simp [entryFrame, mkF, argsToLocals, Value.category]; done) | rfl
def FEn (u0 : Int32) : Int32 := (if u0 = (44 : Int32) then (1 : Int32) else (if u0 = (125 : Int32) then (1 : Int32) else (if u0 = (93 : Int32) then (1 : Int32) else (if (FSp u0) = (0 : Int32) then (0 : Int32) else (1 : Int32)))))
set_option maxRecDepth 65536 in
set_option maxHeartbeats 40000000 in
theorem rm12 (l : Launch) (Z : State) (a0 : Array Value) (hw : ∀ d ∈ tables_1, d.before a0 Z = true) (u0 : Int32) (h0 : Heap) : Con l Z (⟨"com/example/one_lookup/onelookup/json/JsonMembers", "endsScalar", "(B)Z"⟩ : MethodName) prog_23_method_18_code 1 (some .boolean) ({ frames := 1, cells := 0, slots := 0, locals := 12 } : Room) 0 0 [] #[(.int u0)] h0 (PQ (.int (FEn u0)) h0) := by
  refine Con.of pn_12 ?_
  intro p e s m below meth c T C hZ hml hown hret hnm hlk X e0
  rw [ef_12]
  refine o_iloadN C X d12_0 1 rfl rfl ?_
  refine o_bipush C X d12_1 3 rfl (44 : Int32) (by decide) ?_
  by_cases q5 : u0 = (44 : Int32)
  · skip
    refine o_icmpY C X d12_3 25 (by decide) (by decide) (teq q5).1 ?_
    refine o_iconst C X d12_25 26 rfl (1 : Int32) (by decide) ?_
    refine o_goto C X d12_26 30 (by decide) (by decide) ?_
    refine o_retN C X hret (by simp) hlk d12_30 ⟨congrArg some (congrArg _ (by rw [FEn]; simp only [if_pos q5] <;> rfl)), rfl, e0⟩ (Nat.le_refl _) (Nat.le_refl _)
  · skip
    refine o_icmpN C X d12_3 6 rfl (feq q5).1 ?_
    refine o_iloadN C X d12_6 7 rfl rfl ?_
    refine o_bipush C X d12_7 9 rfl (125 : Int32) (by decide) ?_
    by_cases q6 : u0 = (125 : Int32)
    · skip
      refine o_icmpY C X d12_9 25 (by decide) (by decide) (teq q6).1 ?_
      refine o_iconst C X d12_25 26 rfl (1 : Int32) (by decide) ?_
      refine o_goto C X d12_26 30 (by decide) (by decide) ?_
      refine o_retN C X hret (by simp) hlk d12_30 ⟨congrArg some (congrArg _ (by rw [FEn]; simp only [if_neg q5, if_pos q6] <;> rfl)), rfl, e0⟩ (Nat.le_refl _) (Nat.le_refl _)
    · skip
      refine o_icmpN C X d12_9 12 rfl (feq q6).1 ?_
      refine o_iloadN C X d12_12 13 rfl rfl ?_
      refine o_bipush C X d12_13 15 rfl (93 : Int32) (by decide) ?_
      by_cases q7 : u0 = (93 : Int32)
      · skip
        refine o_icmpY C X d12_15 25 (by decide) (by decide) (teq q7).1 ?_
        refine o_iconst C X d12_25 26 rfl (1 : Int32) (by decide) ?_
        refine o_goto C X d12_26 30 (by decide) (by decide) ?_
        refine o_retN C X hret (by simp) hlk d12_30 ⟨congrArg some (congrArg _ (by rw [FEn]; simp only [if_neg q5, if_neg q6, if_pos q7] <;> rfl)), rfl, e0⟩ (Nat.le_refl _) (Nat.le_refl _)
      · skip
        refine o_icmpN C X d12_15 18 rfl (feq q7).1 ?_
        refine o_iloadN C X d12_18 19 rfl rfl ?_
        refine o_callP C X hZ (by rw [hml]; rfl) (own := "com/example/one_lookup/onelookup/json/JsonMembers") (y := (⟨"com/example/one_lookup/onelookup/json/JsonMembers", "isSpace", "(B)Z"⟩ : MethodName)) (rf := 0) (rl := 0) hown (hw _ (List.mem_of_getElem? (i := 35) rfl)) (hw _ (List.mem_of_getElem? (i := 36) rfl)) (hw _ (List.mem_of_getElem? (i := 8) rfl)) (hw _ (List.mem_of_getElem? (i := 37) rfl)) (by decide) (asL := [(.int u0)]) (rm7 l Z a0 hw u0 h0) e0 pd_0 rfl rfl 0 (Nat.le_of_eq rfl) (by decide) (by decide) (by decide) (by decide) d12_19 22 rfl ?_
        intro T X e0
        by_cases q8 : (FSp u0) = (0 : Int32)
        · skip
          refine o_ifY C X d12_22 29 (by decide) (by decide) ((if0 _ _).trans (teq q8).1) ?_
          refine o_iconst C X d12_29 30 rfl (0 : Int32) (by decide) ?_
          refine o_retN C X hret (by simp) hlk d12_30 ⟨congrArg some (congrArg _ (by rw [FEn]; simp only [if_neg q5, if_neg q6, if_neg q7, if_pos q8] <;> rfl)), rfl, e0⟩ (Nat.le_refl _) (Nat.le_refl _)
        · skip
          refine o_ifN C X d12_22 25 rfl ((if0 _ _).trans (feq q8).1) ?_
          refine o_iconst C X d12_25 26 rfl (1 : Int32) (by decide) ?_
          refine o_goto C X d12_26 30 (by decide) (by decide) ?_
          refine o_retN C X hret (by simp) hlk d12_30 ⟨congrArg some (congrArg _ (by rw [FEn]; simp only [if_neg q5, if_neg q6, if_neg q7, if_neg q8] <;> rfl)), rfl, e0⟩ (Nat.le_refl _) (Nat.le_refl _)
theorem d13_0 : decode prog_23_method_20_code 0 = .ok (.iload_n 0, 1) := by decide +kernel
theorem d13_1 : decode prog_23_method_20_code 1 = .ok (.bipush 48, 2) := by decide +kernel
theorem d13_3 : decode prog_23_method_20_code 3 = .ok (.if_icmp .lt 13, 3) := by decide +kernel
theorem d13_6 : decode prog_23_method_20_code 6 = .ok (.iload_n 0, 1) := by decide +kernel
theorem d13_7 : decode prog_23_method_20_code 7 = .ok (.bipush 57, 2) := by decide +kernel
theorem d13_9 : decode prog_23_method_20_code 9 = .ok (.if_icmp .gt 7, 3) := by decide +kernel
theorem d13_12 : decode prog_23_method_20_code 12 = .ok (.iconst 1, 1) := by decide +kernel
theorem d13_13 : decode prog_23_method_20_code 13 = .ok (.goto 4, 3) := by decide +kernel
theorem d13_16 : decode prog_23_method_20_code 16 = .ok (.iconst 0, 1) := by decide +kernel
theorem d13_17 : decode prog_23_method_20_code 17 = .ok (.ireturn, 1) := by decide +kernel
theorem pn_13 : plainFor (⟨"com/example/one_lookup/onelookup/json/JsonMembers", "isDigit", "(B)Z"⟩ : MethodName) = true := by first | exact plainFor_of_name (by first | (simp [plainName, overriddenIn]; done) | decide +kernel) | decide +kernel
theorem ef_13 (m : MethodId) (u0 : Int32) : entryFrame m #[(.int u0)] 1 = (mkF m 0 #[.val (.int u0)] []) := by first | (simp [entryFrame, mkF, argsToLocals, Value.category]; done) | rfl
def FDg (u0 : Int32) : Int32 := (if u0 < (48 : Int32) then (0 : Int32) else (if (57 : Int32) < u0 then (0 : Int32) else (1 : Int32)))
set_option maxRecDepth 65536 in
set_option maxHeartbeats 40000000 in
theorem rm13 (l : Launch) (Z : State) (a0 : Array Value) (hw : ∀ d ∈ tables_1, d.before a0 Z = true) (u0 : Int32) (h0 : Heap) : Con l Z (⟨"com/example/one_lookup/onelookup/json/JsonMembers", "isDigit", "(B)Z"⟩ : MethodName) prog_23_method_20_code 1 (some .boolean) ({ frames := 0, cells := 0, slots := 0, locals := 0 } : Room) 0 0 [] #[(.int u0)] h0 (PQ (.int (FDg u0)) h0) := by
  refine Con.of pn_13 ?_
  intro p e s m below meth c T C hZ hml hown hret hnm hlk X e0
  rw [ef_13]
  refine o_iloadN C X d13_0 1 rfl rfl ?_
  refine o_bipush C X d13_1 3 rfl (48 : Int32) (by decide) ?_
  by_cases q9 : u0 < (48 : Int32)
  · skip
    refine o_icmpY C X d13_3 16 (by decide) (by decide) (tlt q9).1 ?_
    refine o_iconst C X d13_16 17 rfl (0 : Int32) (by decide) ?_
    refine o_retN C X hret (by simp) hlk d13_17 ⟨congrArg some (congrArg _ (by rw [FDg]; simp only [if_pos q9] <;> rfl)), rfl, e0⟩ (Nat.le_refl _) (Nat.le_refl _)
  · skip
    refine o_icmpN C X d13_3 6 rfl (flt q9).1 ?_
    refine o_iloadN C X d13_6 7 rfl rfl ?_
    refine o_bipush C X d13_7 9 rfl (57 : Int32) (by decide) ?_
    by_cases q10 : (57 : Int32) < u0
    · skip
      refine o_icmpY C X d13_9 16 (by decide) (by decide) (tlt q10).2.2.1 ?_
      refine o_iconst C X d13_16 17 rfl (0 : Int32) (by decide) ?_
      refine o_retN C X hret (by simp) hlk d13_17 ⟨congrArg some (congrArg _ (by rw [FDg]; simp only [if_neg q9, if_pos q10] <;> rfl)), rfl, e0⟩ (Nat.le_refl _) (Nat.le_refl _)
    · skip
      refine o_icmpN C X d13_9 12 rfl (flt q10).2.2.1 ?_
      refine o_iconst C X d13_12 13 rfl (1 : Int32) (by decide) ?_
      refine o_goto C X d13_13 17 (by decide) (by decide) ?_
      refine o_retN C X hret (by simp) hlk d13_17 ⟨congrArg some (congrArg _ (by rw [FDg]; simp only [if_neg q9, if_neg q10] <;> rfl)), rfl, e0⟩ (Nat.le_refl _) (Nat.le_refl _)
theorem d14_0 : decode prog_23_method_21_code 0 = .ok (.iload_n 0, 1) := by decide +kernel
theorem d14_1 : decode prog_23_method_21_code 1 = .ok (.bipush 97, 2) := by decide +kernel
theorem d14_3 : decode prog_23_method_21_code 3 = .ok (.if_icmp .lt 13, 3) := by decide +kernel
theorem d14_6 : decode prog_23_method_21_code 6 = .ok (.iload_n 0, 1) := by decide +kernel
theorem d14_7 : decode prog_23_method_21_code 7 = .ok (.bipush 122, 2) := by decide +kernel
theorem d14_9 : decode prog_23_method_21_code 9 = .ok (.if_icmp .gt 7, 3) := by decide +kernel
theorem d14_12 : decode prog_23_method_21_code 12 = .ok (.iconst 1, 1) := by decide +kernel
theorem d14_13 : decode prog_23_method_21_code 13 = .ok (.goto 4, 3) := by decide +kernel
theorem d14_16 : decode prog_23_method_21_code 16 = .ok (.iconst 0, 1) := by decide +kernel
theorem d14_17 : decode prog_23_method_21_code 17 = .ok (.ireturn, 1) := by decide +kernel
theorem pn_14 : plainFor (⟨"com/example/one_lookup/onelookup/json/JsonMembers", "isLetter", "(B)Z"⟩ : MethodName) = true := by first | exact plainFor_of_name (by first | (simp [plainName, overriddenIn]; done) | decide +kernel) | decide +kernel
theorem ef_14 (m : MethodId) (u0 : Int32) : entryFrame m #[(.int u0)] 1 = (mkF m 0 #[.val (.int u0)] []) := by first | (simp [entryFrame, mkF, argsToLocals, Value.category]; done) | rfl
def FLt (u0 : Int32) : Int32 := (if u0 < (97 : Int32) then (0 : Int32) else (if (122 : Int32) < u0 then (0 : Int32) else (1 : Int32)))
set_option maxRecDepth 65536 in
set_option maxHeartbeats 40000000 in
theorem rm14 (l : Launch) (Z : State) (a0 : Array Value) (hw : ∀ d ∈ tables_1, d.before a0 Z = true) (u0 : Int32) (h0 : Heap) : Con l Z (⟨"com/example/one_lookup/onelookup/json/JsonMembers", "isLetter", "(B)Z"⟩ : MethodName) prog_23_method_21_code 1 (some .boolean) ({ frames := 0, cells := 0, slots := 0, locals := 0 } : Room) 0 0 [] #[(.int u0)] h0 (PQ (.int (FLt u0)) h0) := by
  refine Con.of pn_14 ?_
  intro p e s m below meth c T C hZ hml hown hret hnm hlk X e0
  rw [ef_14]
  refine o_iloadN C X d14_0 1 rfl rfl ?_
  refine o_bipush C X d14_1 3 rfl (97 : Int32) (by decide) ?_
  by_cases q11 : u0 < (97 : Int32)
  · skip
    refine o_icmpY C X d14_3 16 (by decide) (by decide) (tlt q11).1 ?_
    refine o_iconst C X d14_16 17 rfl (0 : Int32) (by decide) ?_
    refine o_retN C X hret (by simp) hlk d14_17 ⟨congrArg some (congrArg _ (by rw [FLt]; simp only [if_pos q11] <;> rfl)), rfl, e0⟩ (Nat.le_refl _) (Nat.le_refl _)
  · skip
    refine o_icmpN C X d14_3 6 rfl (flt q11).1 ?_
    refine o_iloadN C X d14_6 7 rfl rfl ?_
    refine o_bipush C X d14_7 9 rfl (122 : Int32) (by decide) ?_
    by_cases q12 : (122 : Int32) < u0
    · skip
      refine o_icmpY C X d14_9 16 (by decide) (by decide) (tlt q12).2.2.1 ?_
      refine o_iconst C X d14_16 17 rfl (0 : Int32) (by decide) ?_
      refine o_retN C X hret (by simp) hlk d14_17 ⟨congrArg some (congrArg _ (by rw [FLt]; simp only [if_neg q11, if_pos q12] <;> rfl)), rfl, e0⟩ (Nat.le_refl _) (Nat.le_refl _)
    · skip
      refine o_icmpN C X d14_9 12 rfl (flt q12).2.2.1 ?_
      refine o_iconst C X d14_12 13 rfl (1 : Int32) (by decide) ?_
      refine o_goto C X d14_13 17 (by decide) (by decide) ?_
      refine o_retN C X hret (by simp) hlk d14_17 ⟨congrArg some (congrArg _ (by rw [FLt]; simp only [if_neg q11, if_neg q12] <;> rfl)), rfl, e0⟩ (Nat.le_refl _) (Nat.le_refl _)
theorem d9_0 : decode jdk_2056_method_24_code 0 = .ok (.iload_n 0, 1) := by decide +kernel
theorem d9_1 : decode jdk_2056_method_24_code 1 = .ok (.sipush 255, 3) := by decide +kernel
theorem d9_4 : decode jdk_2056_method_24_code 4 = .ok (.iand, 1) := by decide +kernel
theorem d9_5 : decode jdk_2056_method_24_code 5 = .ok (.ireturn, 1) := by decide +kernel
theorem pn_9 : plainFor (⟨"java/lang/Byte", "toUnsignedInt", "(B)I"⟩ : MethodName) = true := by first | exact plainFor_of_name (by first | (simp [plainName, overriddenIn]; done) | decide +kernel) | decide +kernel
theorem ef_9 (m : MethodId) (u0 : Int32) : entryFrame m #[(.int u0)] 1 = (mkF m 0 #[.val (.int u0)] []) := by first | (simp [entryFrame, mkF, argsToLocals, Value.category]; done) | rfl
def FU (u0 : Int32) : Int32 := (u0 &&& (255 : Int32))
set_option maxRecDepth 65536 in
set_option maxHeartbeats 40000000 in
theorem rm9 (l : Launch) (Z : State) (a0 : Array Value) (hw : ∀ d ∈ tables_1, d.before a0 Z = true) (u0 : Int32) (h0 : Heap) : Con l Z (⟨"java/lang/Byte", "toUnsignedInt", "(B)I"⟩ : MethodName) jdk_2056_method_24_code 1 (some .int) ({ frames := 0, cells := 0, slots := 0, locals := 0 } : Room) 0 0 [] #[(.int u0)] h0 (PQ (.int (FU u0)) h0) := by
  refine Con.of pn_9 ?_
  intro p e s m below meth c T C hZ hml hown hret hnm hlk X e0
  rw [ef_9]
  refine o_iloadN C X d9_0 1 rfl rfl ?_
  refine o_sipush C X d9_1 4 rfl (255 : Int32) (by decide) ?_
  refine o_iand C X d9_4 5 rfl ?_
  refine o_retI C X hret hlk d9_5 ⟨congrArg some (congrArg _ (by rw [FU] <;> rfl)), rfl, e0⟩ (Nat.le_refl _) (Nat.le_refl _)
def JM (Z : State) (h : Heap) (a : Addr) (v0 v1 v2 v3 v4 v5 v6 : Value) : Prop := Exa Z h a "com/example/one_lookup/onelookup/json/JsonMembers" ∧ Fld Z h a "com/example/one_lookup/onelookup/json/JsonMembers" "nameStart" "I" v0 ∧ Fld Z h a "com/example/one_lookup/onelookup/json/JsonMembers" "text" "[B" v1 ∧ Fld Z h a "com/example/one_lookup/onelookup/json/JsonMembers" "start" "I" v2 ∧ Fld Z h a "com/example/one_lookup/onelookup/json/JsonMembers" "begun" "Z" v3 ∧ Fld Z h a "com/example/one_lookup/onelookup/json/JsonMembers" "nameEnd" "I" v4 ∧ Fld Z h a "com/example/one_lookup/onelookup/json/JsonMembers" "valueStart" "I" v5 ∧ Fld Z h a "com/example/one_lookup/onelookup/json/JsonMembers" "valueEnd" "I" v6
theorem JM.ext {Z : State} {h h' : Heap} {a : Addr} {v0 v1 v2 v3 v4 v5 v6 : Value} (P : JM Z h a v0 v1 v2 v3 v4 v5 v6) (E : Ext h h') : JM Z h' a v0 v1 v2 v3 v4 v5 v6 := ⟨P.1.ext E, P.2.1.ext E, P.2.2.1.ext E, P.2.2.2.1.ext E, P.2.2.2.2.1.ext E, P.2.2.2.2.2.1.ext E, P.2.2.2.2.2.2.1.ext E, P.2.2.2.2.2.2.2.ext E⟩
theorem JM.keep {Z : State} {h h' : Heap} {a : Addr} {v0 v1 v2 v3 v4 v5 v6 : Value} {ws : List Addr} (P : JM Z h a v0 v1 v2 v3 v4 v5 v6) (K : Keep h h' ws) (q : a ∉ ws) : JM Z h' a v0 v1 v2 v3 v4 v5 v6 := ⟨P.1.keep K, P.2.1.keep K q, P.2.2.1.keep K q, P.2.2.2.1.keep K q, P.2.2.2.2.1.keep K q, P.2.2.2.2.2.1.keep K q, P.2.2.2.2.2.2.1.keep K q, P.2.2.2.2.2.2.2.keep K q⟩
theorem JM.other {Z : State} {h h' : Heap} {a : Addr} {v0 v1 v2 v3 v4 v5 v6 : Value} {b : Addr} {sl : Nat} {w : Value} (P : JM Z h a v0 v1 v2 v3 v4 v5 v6) (W : Wr h h' b sl w) (q : a ≠ b) : JM Z h' a v0 v1 v2 v3 v4 v5 v6 := ⟨P.1.wr W, P.2.1.other W (Or.inl q), P.2.2.1.other W (Or.inl q), P.2.2.2.1.other W (Or.inl q), P.2.2.2.2.1.other W (Or.inl q), P.2.2.2.2.2.1.other W (Or.inl q), P.2.2.2.2.2.2.1.other W (Or.inl q), P.2.2.2.2.2.2.2.other W (Or.inl q)⟩
theorem JM.wr0 {Z : State} {h h' : Heap} {a : Addr} {v0 v1 v2 v3 v4 v5 v6 : Value} {w : Value} {a0 : Array Value} (hw : ∀ d ∈ tables_1, d.before a0 Z = true) (P : JM Z h a v0 v1 v2 v3 v4 v5 v6) (W : Wr h h' a (Jvm.RoadKit.slotOf Z "com/example/one_lookup/onelookup/json/JsonMembers" "nameStart" "I") w) : JM Z h' a w v1 v2 v3 v4 v5 v6 := ⟨P.1.wr W, P.2.1.same W, P.2.2.1.other W (Or.inr (slot_ne (Or.inr (hw _ (List.mem_of_getElem? (i := 21) rfl))) (Or.inl (hw _ (List.mem_of_getElem? (i := 19) rfl))) (by decide) (t := (.array .byte)) (t' := .int) (by decide) (by decide))), P.2.2.2.1.other W (Or.inr (slot_ne (Or.inr (hw _ (List.mem_of_getElem? (i := 23) rfl))) (Or.inl (hw _ (List.mem_of_getElem? (i := 19) rfl))) (by decide) (t := .int) (t' := .int) (by decide) (by decide))), P.2.2.2.2.1.other W (Or.inr (slot_ne (Or.inl (hw _ (List.mem_of_getElem? (i := 30) rfl))) (Or.inl (hw _ (List.mem_of_getElem? (i := 19) rfl))) (by decide) (t := .boolean) (t' := .int) (by decide) (by decide))), P.2.2.2.2.2.1.other W (Or.inr (slot_ne (Or.inl (hw _ (List.mem_of_getElem? (i := 47) rfl))) (Or.inl (hw _ (List.mem_of_getElem? (i := 19) rfl))) (by decide) (t := .int) (t' := .int) (by decide) (by decide))), P.2.2.2.2.2.2.1.other W (Or.inr (slot_ne (Or.inl (hw _ (List.mem_of_getElem? (i := 49) rfl))) (Or.inl (hw _ (List.mem_of_getElem? (i := 19) rfl))) (by decide) (t := .int) (t' := .int) (by decide) (by decide))), P.2.2.2.2.2.2.2.other W (Or.inr (slot_ne (Or.inl (hw _ (List.mem_of_getElem? (i := 55) rfl))) (Or.inl (hw _ (List.mem_of_getElem? (i := 19) rfl))) (by decide) (t := .int) (t' := .int) (by decide) (by decide)))⟩
theorem JM.wr1 {Z : State} {h h' : Heap} {a : Addr} {v0 v1 v2 v3 v4 v5 v6 : Value} {w : Value} {a0 : Array Value} (hw : ∀ d ∈ tables_1, d.before a0 Z = true) (P : JM Z h a v0 v1 v2 v3 v4 v5 v6) (W : Wr h h' a (Jvm.RoadKit.slotOf Z "com/example/one_lookup/onelookup/json/JsonMembers" "text" "[B") w) : JM Z h' a v0 w v2 v3 v4 v5 v6 := ⟨P.1.wr W, P.2.1.other W (Or.inr (slot_ne (Or.inl (hw _ (List.mem_of_getElem? (i := 19) rfl))) (Or.inr (hw _ (List.mem_of_getElem? (i := 21) rfl))) (by decide) (t := .int) (t' := (.array .byte)) (by decide) (by decide))), P.2.2.1.same W, P.2.2.2.1.other W (Or.inr (slot_ne (Or.inr (hw _ (List.mem_of_getElem? (i := 23) rfl))) (Or.inr (hw _ (List.mem_of_getElem? (i := 21) rfl))) (by decide) (t := .int) (t' := (.array .byte)) (by decide) (by decide))), P.2.2.2.2.1.other W (Or.inr (slot_ne (Or.inl (hw _ (List.mem_of_getElem? (i := 30) rfl))) (Or.inr (hw _ (List.mem_of_getElem? (i := 21) rfl))) (by decide) (t := .boolean) (t' := (.array .byte)) (by decide) (by decide))), P.2.2.2.2.2.1.other W (Or.inr (slot_ne (Or.inl (hw _ (List.mem_of_getElem? (i := 47) rfl))) (Or.inr (hw _ (List.mem_of_getElem? (i := 21) rfl))) (by decide) (t := .int) (t' := (.array .byte)) (by decide) (by decide))), P.2.2.2.2.2.2.1.other W (Or.inr (slot_ne (Or.inl (hw _ (List.mem_of_getElem? (i := 49) rfl))) (Or.inr (hw _ (List.mem_of_getElem? (i := 21) rfl))) (by decide) (t := .int) (t' := (.array .byte)) (by decide) (by decide))), P.2.2.2.2.2.2.2.other W (Or.inr (slot_ne (Or.inl (hw _ (List.mem_of_getElem? (i := 55) rfl))) (Or.inr (hw _ (List.mem_of_getElem? (i := 21) rfl))) (by decide) (t := .int) (t' := (.array .byte)) (by decide) (by decide)))⟩
theorem JM.wr2 {Z : State} {h h' : Heap} {a : Addr} {v0 v1 v2 v3 v4 v5 v6 : Value} {w : Value} {a0 : Array Value} (hw : ∀ d ∈ tables_1, d.before a0 Z = true) (P : JM Z h a v0 v1 v2 v3 v4 v5 v6) (W : Wr h h' a (Jvm.RoadKit.slotOf Z "com/example/one_lookup/onelookup/json/JsonMembers" "start" "I") w) : JM Z h' a v0 v1 w v3 v4 v5 v6 := ⟨P.1.wr W, P.2.1.other W (Or.inr (slot_ne (Or.inl (hw _ (List.mem_of_getElem? (i := 19) rfl))) (Or.inr (hw _ (List.mem_of_getElem? (i := 23) rfl))) (by decide) (t := .int) (t' := .int) (by decide) (by decide))), P.2.2.1.other W (Or.inr (slot_ne (Or.inr (hw _ (List.mem_of_getElem? (i := 21) rfl))) (Or.inr (hw _ (List.mem_of_getElem? (i := 23) rfl))) (by decide) (t := (.array .byte)) (t' := .int) (by decide) (by decide))), P.2.2.2.1.same W, P.2.2.2.2.1.other W (Or.inr (slot_ne (Or.inl (hw _ (List.mem_of_getElem? (i := 30) rfl))) (Or.inr (hw _ (List.mem_of_getElem? (i := 23) rfl))) (by decide) (t := .boolean) (t' := .int) (by decide) (by decide))), P.2.2.2.2.2.1.other W (Or.inr (slot_ne (Or.inl (hw _ (List.mem_of_getElem? (i := 47) rfl))) (Or.inr (hw _ (List.mem_of_getElem? (i := 23) rfl))) (by decide) (t := .int) (t' := .int) (by decide) (by decide))), P.2.2.2.2.2.2.1.other W (Or.inr (slot_ne (Or.inl (hw _ (List.mem_of_getElem? (i := 49) rfl))) (Or.inr (hw _ (List.mem_of_getElem? (i := 23) rfl))) (by decide) (t := .int) (t' := .int) (by decide) (by decide))), P.2.2.2.2.2.2.2.other W (Or.inr (slot_ne (Or.inl (hw _ (List.mem_of_getElem? (i := 55) rfl))) (Or.inr (hw _ (List.mem_of_getElem? (i := 23) rfl))) (by decide) (t := .int) (t' := .int) (by decide) (by decide)))⟩
theorem JM.wr3 {Z : State} {h h' : Heap} {a : Addr} {v0 v1 v2 v3 v4 v5 v6 : Value} {w : Value} {a0 : Array Value} (hw : ∀ d ∈ tables_1, d.before a0 Z = true) (P : JM Z h a v0 v1 v2 v3 v4 v5 v6) (W : Wr h h' a (Jvm.RoadKit.slotOf Z "com/example/one_lookup/onelookup/json/JsonMembers" "begun" "Z") w) : JM Z h' a v0 v1 v2 w v4 v5 v6 := ⟨P.1.wr W, P.2.1.other W (Or.inr (slot_ne (Or.inl (hw _ (List.mem_of_getElem? (i := 19) rfl))) (Or.inl (hw _ (List.mem_of_getElem? (i := 30) rfl))) (by decide) (t := .int) (t' := .boolean) (by decide) (by decide))), P.2.2.1.other W (Or.inr (slot_ne (Or.inr (hw _ (List.mem_of_getElem? (i := 21) rfl))) (Or.inl (hw _ (List.mem_of_getElem? (i := 30) rfl))) (by decide) (t := (.array .byte)) (t' := .boolean) (by decide) (by decide))), P.2.2.2.1.other W (Or.inr (slot_ne (Or.inr (hw _ (List.mem_of_getElem? (i := 23) rfl))) (Or.inl (hw _ (List.mem_of_getElem? (i := 30) rfl))) (by decide) (t := .int) (t' := .boolean) (by decide) (by decide))), P.2.2.2.2.1.same W, P.2.2.2.2.2.1.other W (Or.inr (slot_ne (Or.inl (hw _ (List.mem_of_getElem? (i := 47) rfl))) (Or.inl (hw _ (List.mem_of_getElem? (i := 30) rfl))) (by decide) (t := .int) (t' := .boolean) (by decide) (by decide))), P.2.2.2.2.2.2.1.other W (Or.inr (slot_ne (Or.inl (hw _ (List.mem_of_getElem? (i := 49) rfl))) (Or.inl (hw _ (List.mem_of_getElem? (i := 30) rfl))) (by decide) (t := .int) (t' := .boolean) (by decide) (by decide))), P.2.2.2.2.2.2.2.other W (Or.inr (slot_ne (Or.inl (hw _ (List.mem_of_getElem? (i := 55) rfl))) (Or.inl (hw _ (List.mem_of_getElem? (i := 30) rfl))) (by decide) (t := .int) (t' := .boolean) (by decide) (by decide)))⟩
theorem JM.wr4 {Z : State} {h h' : Heap} {a : Addr} {v0 v1 v2 v3 v4 v5 v6 : Value} {w : Value} {a0 : Array Value} (hw : ∀ d ∈ tables_1, d.before a0 Z = true) (P : JM Z h a v0 v1 v2 v3 v4 v5 v6) (W : Wr h h' a (Jvm.RoadKit.slotOf Z "com/example/one_lookup/onelookup/json/JsonMembers" "nameEnd" "I") w) : JM Z h' a v0 v1 v2 v3 w v5 v6 := ⟨P.1.wr W, P.2.1.other W (Or.inr (slot_ne (Or.inl (hw _ (List.mem_of_getElem? (i := 19) rfl))) (Or.inl (hw _ (List.mem_of_getElem? (i := 47) rfl))) (by decide) (t := .int) (t' := .int) (by decide) (by decide))), P.2.2.1.other W (Or.inr (slot_ne (Or.inr (hw _ (List.mem_of_getElem? (i := 21) rfl))) (Or.inl (hw _ (List.mem_of_getElem? (i := 47) rfl))) (by decide) (t := (.array .byte)) (t' := .int) (by decide) (by decide))), P.2.2.2.1.other W (Or.inr (slot_ne (Or.inr (hw _ (List.mem_of_getElem? (i := 23) rfl))) (Or.inl (hw _ (List.mem_of_getElem? (i := 47) rfl))) (by decide) (t := .int) (t' := .int) (by decide) (by decide))), P.2.2.2.2.1.other W (Or.inr (slot_ne (Or.inl (hw _ (List.mem_of_getElem? (i := 30) rfl))) (Or.inl (hw _ (List.mem_of_getElem? (i := 47) rfl))) (by decide) (t := .boolean) (t' := .int) (by decide) (by decide))), P.2.2.2.2.2.1.same W, P.2.2.2.2.2.2.1.other W (Or.inr (slot_ne (Or.inl (hw _ (List.mem_of_getElem? (i := 49) rfl))) (Or.inl (hw _ (List.mem_of_getElem? (i := 47) rfl))) (by decide) (t := .int) (t' := .int) (by decide) (by decide))), P.2.2.2.2.2.2.2.other W (Or.inr (slot_ne (Or.inl (hw _ (List.mem_of_getElem? (i := 55) rfl))) (Or.inl (hw _ (List.mem_of_getElem? (i := 47) rfl))) (by decide) (t := .int) (t' := .int) (by decide) (by decide)))⟩
theorem JM.wr5 {Z : State} {h h' : Heap} {a : Addr} {v0 v1 v2 v3 v4 v5 v6 : Value} {w : Value} {a0 : Array Value} (hw : ∀ d ∈ tables_1, d.before a0 Z = true) (P : JM Z h a v0 v1 v2 v3 v4 v5 v6) (W : Wr h h' a (Jvm.RoadKit.slotOf Z "com/example/one_lookup/onelookup/json/JsonMembers" "valueStart" "I") w) : JM Z h' a v0 v1 v2 v3 v4 w v6 := ⟨P.1.wr W, P.2.1.other W (Or.inr (slot_ne (Or.inl (hw _ (List.mem_of_getElem? (i := 19) rfl))) (Or.inl (hw _ (List.mem_of_getElem? (i := 49) rfl))) (by decide) (t := .int) (t' := .int) (by decide) (by decide))), P.2.2.1.other W (Or.inr (slot_ne (Or.inr (hw _ (List.mem_of_getElem? (i := 21) rfl))) (Or.inl (hw _ (List.mem_of_getElem? (i := 49) rfl))) (by decide) (t := (.array .byte)) (t' := .int) (by decide) (by decide))), P.2.2.2.1.other W (Or.inr (slot_ne (Or.inr (hw _ (List.mem_of_getElem? (i := 23) rfl))) (Or.inl (hw _ (List.mem_of_getElem? (i := 49) rfl))) (by decide) (t := .int) (t' := .int) (by decide) (by decide))), P.2.2.2.2.1.other W (Or.inr (slot_ne (Or.inl (hw _ (List.mem_of_getElem? (i := 30) rfl))) (Or.inl (hw _ (List.mem_of_getElem? (i := 49) rfl))) (by decide) (t := .boolean) (t' := .int) (by decide) (by decide))), P.2.2.2.2.2.1.other W (Or.inr (slot_ne (Or.inl (hw _ (List.mem_of_getElem? (i := 47) rfl))) (Or.inl (hw _ (List.mem_of_getElem? (i := 49) rfl))) (by decide) (t := .int) (t' := .int) (by decide) (by decide))), P.2.2.2.2.2.2.1.same W, P.2.2.2.2.2.2.2.other W (Or.inr (slot_ne (Or.inl (hw _ (List.mem_of_getElem? (i := 55) rfl))) (Or.inl (hw _ (List.mem_of_getElem? (i := 49) rfl))) (by decide) (t := .int) (t' := .int) (by decide) (by decide)))⟩
theorem JM.wr6 {Z : State} {h h' : Heap} {a : Addr} {v0 v1 v2 v3 v4 v5 v6 : Value} {w : Value} {a0 : Array Value} (hw : ∀ d ∈ tables_1, d.before a0 Z = true) (P : JM Z h a v0 v1 v2 v3 v4 v5 v6) (W : Wr h h' a (Jvm.RoadKit.slotOf Z "com/example/one_lookup/onelookup/json/JsonMembers" "valueEnd" "I") w) : JM Z h' a v0 v1 v2 v3 v4 v5 w := ⟨P.1.wr W, P.2.1.other W (Or.inr (slot_ne (Or.inl (hw _ (List.mem_of_getElem? (i := 19) rfl))) (Or.inl (hw _ (List.mem_of_getElem? (i := 55) rfl))) (by decide) (t := .int) (t' := .int) (by decide) (by decide))), P.2.2.1.other W (Or.inr (slot_ne (Or.inr (hw _ (List.mem_of_getElem? (i := 21) rfl))) (Or.inl (hw _ (List.mem_of_getElem? (i := 55) rfl))) (by decide) (t := (.array .byte)) (t' := .int) (by decide) (by decide))), P.2.2.2.1.other W (Or.inr (slot_ne (Or.inr (hw _ (List.mem_of_getElem? (i := 23) rfl))) (Or.inl (hw _ (List.mem_of_getElem? (i := 55) rfl))) (by decide) (t := .int) (t' := .int) (by decide) (by decide))), P.2.2.2.2.1.other W (Or.inr (slot_ne (Or.inl (hw _ (List.mem_of_getElem? (i := 30) rfl))) (Or.inl (hw _ (List.mem_of_getElem? (i := 55) rfl))) (by decide) (t := .boolean) (t' := .int) (by decide) (by decide))), P.2.2.2.2.2.1.other W (Or.inr (slot_ne (Or.inl (hw _ (List.mem_of_getElem? (i := 47) rfl))) (Or.inl (hw _ (List.mem_of_getElem? (i := 55) rfl))) (by decide) (t := .int) (t' := .int) (by decide) (by decide))), P.2.2.2.2.2.2.1.other W (Or.inr (slot_ne (Or.inl (hw _ (List.mem_of_getElem? (i := 49) rfl))) (Or.inl (hw _ (List.mem_of_getElem? (i := 55) rfl))) (by decide) (t := .int) (t' := .int) (by decide) (by decide))), P.2.2.2.2.2.2.2.same W⟩
theorem pd_1 : parseMethodDescriptor "(B)I" = some ⟨[.byte], some .int⟩ := by decide +kernel
theorem d6_0 : decode prog_23_method_10_code 0 = .ok (.iload_n 1, 1) := by decide +kernel
theorem d6_1 : decode prog_23_method_10_code 1 = .ok (.istore_n 2, 1) := by decide +kernel
theorem d6_2 : decode prog_23_method_10_code 2 = .ok (.iload_n 2, 1) := by decide +kernel
theorem d6_3 : decode prog_23_method_10_code 3 = .ok (.aload_n 0, 1) := by decide +kernel
theorem d6_4 : decode prog_23_method_10_code 4 = .ok (.getfield 16, 3) := by decide +kernel
theorem d6_7 : decode prog_23_method_10_code 7 = .ok (.arraylength, 1) := by decide +kernel
theorem d6_8 : decode prog_23_method_10_code 8 = .ok (.if_icmp .ge 21, 3) := by decide +kernel
theorem d6_11 : decode prog_23_method_10_code 11 = .ok (.aload_n 0, 1) := by decide +kernel
theorem d6_12 : decode prog_23_method_10_code 12 = .ok (.getfield 16, 3) := by decide +kernel
theorem d6_15 : decode prog_23_method_10_code 15 = .ok (.iload_n 2, 1) := by decide +kernel
theorem d6_16 : decode prog_23_method_10_code 16 = .ok (.baload, 1) := by decide +kernel
theorem d6_17 : decode prog_23_method_10_code 17 = .ok (.invokestatic 112, 3) := by decide +kernel
theorem d6_20 : decode prog_23_method_10_code 20 = .ok (.ifCond .eq 9, 3) := by decide +kernel
theorem d6_23 : decode prog_23_method_10_code 23 = .ok (.iinc 2 1, 3) := by decide +kernel
theorem d6_26 : decode prog_23_method_10_code 26 = .ok (.goto (-24), 3) := by decide +kernel
theorem d6_29 : decode prog_23_method_10_code 29 = .ok (.iload_n 2, 1) := by decide +kernel
theorem d6_30 : decode prog_23_method_10_code 30 = .ok (.ireturn, 1) := by decide +kernel
theorem pn_6 : plainFor (⟨"com/example/one_lookup/onelookup/json/JsonMembers", "space", "(I)I"⟩ : MethodName) = true := by first | exact plainFor_of_name (by first | (simp [plainName, overriddenIn]; done) | decide +kernel) | decide +kernel
theorem ef_6 (m : MethodId) (a : Addr) (i0 : Int32) : entryFrame m #[(.ref a), (.int i0)] 3 = (mkF m 0 #[.val (.ref a), .val (.int i0), .unset] []) := by first | (simp [entryFrame, mkF, argsToLocals, Value.category]; done) | rfl
set_option maxRecDepth 65536 in
set_option maxHeartbeats 40000000 in
theorem loopS {p : Program} {l : Launch} {e : Env} {s : State} {m : MethodId} {args : Array Value} {below : List Frame} {meth : Method} {c : Code} {Z : State} {a0 : Array Value} {h0 : Heap} {a t : Addr} {f : Nat → Int32} {y0 y2 y3 y4 y5 y6 : Value} (i0 : Int32) (j : Nat) (hj : j ≤ 19) (hsp : ∀ k, k < j → i0.toInt ≤ k → ¬ FSp (f k) = 0) (hno : j < 19 → FSp (f j) = 0) (hw : ∀ d ∈ tables_1, d.before a0 Z = true) (P : JM Z h0 a y0 (.ref t) y2 y3 y4 y5 y6) (A : AI Z h0 t .byte 19 f) (C : Cx p c prog_23_method_10_code) (hZ : Z.Warmed39 s.vm) (hml : c.maxLocals = 3) (hown : s.vm.findClass "com/example/one_lookup/onelookup/json/JsonMembers" = some m.cls) (hret : meth.sig.returnType = some .int) (hlk : meth.locks = false) :
    ∀ (n i : Nat) (v : Int32) (T : State), v.toInt = i → i0.toInt ≤ i → i + n = j → Stand p l e ({ frames := 1, cells := 0, slots := 0, locals := 12 } : Room) s m args below meth c T [] 0 0 → T.heap = h0 →
      Ends p e below s (PQ (.int (Int32.ofNat j)) h0) 0 0 (T.setTop (mkF m 2 #[.val (.ref a), .val (.int i0), .val (.int v)] [])) := by
  intro n
  induction n with
  | zero =>
    intro i v T hv hi hn X e0
    obtain rfl : i = j := by omega
    by_cases q : i < 19
    · skip
      refine o_iloadN C X d6_2 3 rfl rfl ?_
      refine o_aloadN C X d6_3 4 rfl rfl rfl ?_
      refine o_getF C X hZ hown (hw _ (List.mem_of_getElem? (i := 20) rfl)) Via.refl e0 P.2.2.1 d6_4 7 rfl ?_
      intro T X e0
      refine o_arraylength C X hZ e0 A (19 : Int32) rfl d6_7 8 rfl ?_
      refine o_icmpN C X d6_8 11 rfl (tlt (own_lt (k := 19) hv (by decide : (19 : Int32).toInt = 19) q)).2.1 ?_
      refine o_aloadN C X d6_11 12 rfl rfl rfl ?_
      refine o_getF C X hZ hown (hw _ (List.mem_of_getElem? (i := 20) rfl)) Via.refl e0 P.2.2.1 d6_12 15 rfl ?_
      intro T X e0
      refine o_iloadN C X d6_15 16 rfl rfl ?_
      refine o_baload C X hZ e0 A (i) hv q d6_16 17 rfl ?_
      refine o_callP C X hZ (by rw [hml]; rfl) (own := "com/example/one_lookup/onelookup/json/JsonMembers") (y := (⟨"com/example/one_lookup/onelookup/json/JsonMembers", "isSpace", "(B)Z"⟩ : MethodName)) (rf := 0) (rl := 0) hown (hw _ (List.mem_of_getElem? (i := 35) rfl)) (hw _ (List.mem_of_getElem? (i := 36) rfl)) (hw _ (List.mem_of_getElem? (i := 8) rfl)) (hw _ (List.mem_of_getElem? (i := 37) rfl)) (by decide) (asL := [(.int (f i))]) (rm7 l Z a0 hw (f i) h0) e0 pd_0 rfl rfl 0 (Nat.le_of_eq rfl) (by decide) (by decide) (by decide) (by decide) d6_17 20 rfl ?_
      intro T X e0
      refine o_ifY C X d6_20 29 (by decide) (by decide) ((if0 _ _).trans (teq (hno q)).1) ?_
      refine o_iloadN C X d6_29 30 rfl rfl ?_
      exact o_retI C X hret hlk d6_30 ⟨congrArg some (congrArg _ (own_of hv)), rfl, e0⟩ (Nat.le_refl _) (Nat.le_refl _)
    · skip
      refine o_iloadN C X d6_2 3 rfl rfl ?_
      refine o_aloadN C X d6_3 4 rfl rfl rfl ?_
      refine o_getF C X hZ hown (hw _ (List.mem_of_getElem? (i := 20) rfl)) Via.refl e0 P.2.2.1 d6_4 7 rfl ?_
      intro T X e0
      refine o_arraylength C X hZ e0 A (19 : Int32) rfl d6_7 8 rfl ?_
      refine o_icmpY C X d6_8 29 (by decide) (by decide) (flt (own_ge (k := 19) hv (by decide : (19 : Int32).toInt = 19) (by omega))).2.1 ?_
      refine o_iloadN C X d6_29 30 rfl rfl ?_
      exact o_retI C X hret hlk d6_30 ⟨congrArg some (congrArg _ (own_of hv)), rfl, e0⟩ (Nat.le_refl _) (Nat.le_refl _)
  | succ n ih =>
    intro i v T hv hi hn X e0
    refine o_iloadN C X d6_2 3 rfl rfl ?_
    refine o_aloadN C X d6_3 4 rfl rfl rfl ?_
    refine o_getF C X hZ hown (hw _ (List.mem_of_getElem? (i := 20) rfl)) Via.refl e0 P.2.2.1 d6_4 7 rfl ?_
    intro T X e0
    refine o_arraylength C X hZ e0 A (19 : Int32) rfl d6_7 8 rfl ?_
    refine o_icmpN C X d6_8 11 rfl (tlt (own_lt (k := 19) hv (by decide : (19 : Int32).toInt = 19) (by omega))).2.1 ?_
    refine o_aloadN C X d6_11 12 rfl rfl rfl ?_
    refine o_getF C X hZ hown (hw _ (List.mem_of_getElem? (i := 20) rfl)) Via.refl e0 P.2.2.1 d6_12 15 rfl ?_
    intro T X e0
    refine o_iloadN C X d6_15 16 rfl rfl ?_
    refine o_baload C X hZ e0 A (i) hv (by omega) d6_16 17 rfl ?_
    refine o_callP C X hZ (by rw [hml]; rfl) (own := "com/example/one_lookup/onelookup/json/JsonMembers") (y := (⟨"com/example/one_lookup/onelookup/json/JsonMembers", "isSpace", "(B)Z"⟩ : MethodName)) (rf := 0) (rl := 0) hown (hw _ (List.mem_of_getElem? (i := 35) rfl)) (hw _ (List.mem_of_getElem? (i := 36) rfl)) (hw _ (List.mem_of_getElem? (i := 8) rfl)) (hw _ (List.mem_of_getElem? (i := 37) rfl)) (by decide) (asL := [(.int (f i))]) (rm7 l Z a0 hw (f i) h0) e0 pd_0 rfl rfl 0 (Nat.le_of_eq rfl) (by decide) (by decide) (by decide) (by decide) d6_17 20 rfl ?_
    intro T X e0
    refine o_ifN C X d6_20 23 rfl ((if0 _ _).trans (feq (hsp i (by omega) hi)).1) ?_
    refine o_iinc C X (v + (1 : Int32)) d6_23 26 rfl #[.val (.ref a), .val (.int i0), .val (.int (v + (1 : Int32)))] rfl rfl rfl ?_
    refine o_goto C X d6_26 2 (by decide) (by decide) ?_
    exact ih (i + 1) _ T (own_add hv rfl (by omega) (by decide)) (by omega) (by omega) X e0
set_option maxRecDepth 65536 in
set_option maxHeartbeats 40000000 in
theorem rspace (l : Launch) (Z : State) (a0 : Array Value) (hw : ∀ d ∈ tables_1, d.before a0 Z = true) (a t : Addr) (f : Nat → Int32) (y0 y2 y3 y4 y5 y6 : Value) (i0 : Int32) (h0 : Heap) (i j : Nat) (hi : i0.toInt = i) (hij : i ≤ j) (hj : j ≤ 19) (hsp : ∀ k, k < j → i ≤ k → ¬ FSp (f k) = 0) (hno : j < 19 → FSp (f j) = 0) (P : JM Z h0 a y0 (.ref t) y2 y3 y4 y5 y6) (A : AI Z h0 t .byte 19 f) : Con l Z (⟨"com/example/one_lookup/onelookup/json/JsonMembers", "space", "(I)I"⟩ : MethodName) prog_23_method_10_code 3 (some .int) ({ frames := 1, cells := 0, slots := 0, locals := 12 } : Room) 0 0 [] #[(.ref a), (.int i0)] h0 (PQ (.int (Int32.ofNat j)) h0) := by
  refine Con.of pn_6 ?_
  intro p e s m below meth c T C hZ hml hown hret hnm hlk X e0
  rw [ef_6]
  refine o_iloadN C X d6_0 1 rfl rfl ?_
  refine o_istoreN C X d6_1 2 rfl #[.val (.ref a), .val (.int i0), .val (.int i0)] rfl ?_
  exact loopS i0 j hj (fun k h1 h2 => hsp k h1 (by omega)) hno hw P A C hZ hml hown hret hlk (j - i) i i0 T hi (by omega) (by omega) X e0
def STR (f : Nat → Int32) (lim i k : Nat) : Prop := i < k ∧ k < lim ∧ f i = 34 ∧ f k = 34 ∧ ∀ m, i < m → m < k → (¬ f m = 34 ∧ ¬ FU (f m) < 32 ∧ ¬ f m = 92)
theorem d8_0 : decode prog_23_method_13_code 0 = .ok (.iload_n 1, 1) := by decide +kernel
theorem d8_1 : decode prog_23_method_13_code 1 = .ok (.aload_n 0, 1) := by decide +kernel
theorem d8_2 : decode prog_23_method_13_code 2 = .ok (.getfield 16, 3) := by decide +kernel
theorem d8_5 : decode prog_23_method_13_code 5 = .ok (.arraylength, 1) := by decide +kernel
theorem d8_6 : decode prog_23_method_13_code 6 = .ok (.if_icmp .ge 14, 3) := by decide +kernel
theorem d8_9 : decode prog_23_method_13_code 9 = .ok (.aload_n 0, 1) := by decide +kernel
theorem d8_10 : decode prog_23_method_13_code 10 = .ok (.getfield 16, 3) := by decide +kernel
theorem d8_13 : decode prog_23_method_13_code 13 = .ok (.iload_n 1, 1) := by decide +kernel
theorem d8_14 : decode prog_23_method_13_code 14 = .ok (.baload, 1) := by decide +kernel
theorem d8_15 : decode prog_23_method_13_code 15 = .ok (.bipush 34, 2) := by decide +kernel
theorem d8_17 : decode prog_23_method_13_code 17 = .ok (.if_icmp .eq 14, 3) := by decide +kernel
theorem d8_20 : decode prog_23_method_13_code 20 = .ok (.new 34, 3) := by decide +kernel
theorem d8_23 : decode prog_23_method_13_code 23 = .ok (.dup, 1) := by decide +kernel
theorem d8_24 : decode prog_23_method_13_code 24 = .ok (.ldc 125, 2) := by decide +kernel
theorem d8_26 : decode prog_23_method_13_code 26 = .ok (.iload_n 1, 1) := by decide +kernel
theorem d8_27 : decode prog_23_method_13_code 27 = .ok (.invokespecial 38, 3) := by decide +kernel
theorem d8_30 : decode prog_23_method_13_code 30 = .ok (.athrow, 1) := by decide +kernel
theorem d8_31 : decode prog_23_method_13_code 31 = .ok (.iload_n 1, 1) := by decide +kernel
theorem d8_32 : decode prog_23_method_13_code 32 = .ok (.iconst 1, 1) := by decide +kernel
theorem d8_33 : decode prog_23_method_13_code 33 = .ok (.iadd, 1) := by decide +kernel
theorem d8_34 : decode prog_23_method_13_code 34 = .ok (.istore_n 2, 1) := by decide +kernel
theorem d8_35 : decode prog_23_method_13_code 35 = .ok (.iload_n 2, 1) := by decide +kernel
theorem d8_36 : decode prog_23_method_13_code 36 = .ok (.aload_n 0, 1) := by decide +kernel
theorem d8_37 : decode prog_23_method_13_code 37 = .ok (.getfield 16, 3) := by decide +kernel
theorem d8_40 : decode prog_23_method_13_code 40 = .ok (.arraylength, 1) := by decide +kernel
theorem d8_41 : decode prog_23_method_13_code 41 = .ok (.if_icmp .ge 66, 3) := by decide +kernel
theorem d8_44 : decode prog_23_method_13_code 44 = .ok (.aload_n 0, 1) := by decide +kernel
theorem d8_45 : decode prog_23_method_13_code 45 = .ok (.getfield 16, 3) := by decide +kernel
theorem d8_48 : decode prog_23_method_13_code 48 = .ok (.iload_n 2, 1) := by decide +kernel
theorem d8_49 : decode prog_23_method_13_code 49 = .ok (.baload, 1) := by decide +kernel
theorem d8_50 : decode prog_23_method_13_code 50 = .ok (.bipush 34, 2) := by decide +kernel
theorem d8_52 : decode prog_23_method_13_code 52 = .ok (.if_icmp .eq 55, 3) := by decide +kernel
theorem d8_55 : decode prog_23_method_13_code 55 = .ok (.aload_n 0, 1) := by decide +kernel
theorem d8_56 : decode prog_23_method_13_code 56 = .ok (.getfield 16, 3) := by decide +kernel
theorem d8_59 : decode prog_23_method_13_code 59 = .ok (.iload_n 2, 1) := by decide +kernel
theorem d8_60 : decode prog_23_method_13_code 60 = .ok (.baload, 1) := by decide +kernel
theorem d8_61 : decode prog_23_method_13_code 61 = .ok (.invokestatic 127, 3) := by decide +kernel
theorem d8_64 : decode prog_23_method_13_code 64 = .ok (.bipush 32, 2) := by decide +kernel
theorem d8_66 : decode prog_23_method_13_code 66 = .ok (.if_icmp .ge 14, 3) := by decide +kernel
theorem d8_69 : decode prog_23_method_13_code 69 = .ok (.new 34, 3) := by decide +kernel
theorem d8_72 : decode prog_23_method_13_code 72 = .ok (.dup, 1) := by decide +kernel
theorem d8_73 : decode prog_23_method_13_code 73 = .ok (.ldc 133, 2) := by decide +kernel
theorem d8_75 : decode prog_23_method_13_code 75 = .ok (.iload_n 2, 1) := by decide +kernel
theorem d8_76 : decode prog_23_method_13_code 76 = .ok (.invokespecial 38, 3) := by decide +kernel
theorem d8_79 : decode prog_23_method_13_code 79 = .ok (.athrow, 1) := by decide +kernel
theorem d8_80 : decode prog_23_method_13_code 80 = .ok (.aload_n 0, 1) := by decide +kernel
theorem d8_81 : decode prog_23_method_13_code 81 = .ok (.getfield 16, 3) := by decide +kernel
theorem d8_84 : decode prog_23_method_13_code 84 = .ok (.iload_n 2, 1) := by decide +kernel
theorem d8_85 : decode prog_23_method_13_code 85 = .ok (.baload, 1) := by decide +kernel
theorem d8_86 : decode prog_23_method_13_code 86 = .ok (.bipush 92, 2) := by decide +kernel
theorem d8_88 : decode prog_23_method_13_code 88 = .ok (.if_icmp .ne 12, 3) := by decide +kernel
theorem d8_91 : decode prog_23_method_13_code 91 = .ok (.aload_n 0, 1) := by decide +kernel
theorem d8_92 : decode prog_23_method_13_code 92 = .ok (.iload_n 2, 1) := by decide +kernel
theorem d8_93 : decode prog_23_method_13_code 93 = .ok (.aconst_null, 1) := by decide +kernel
theorem d8_94 : decode prog_23_method_13_code 94 = .ok (.invokevirtual 135, 3) := by decide +kernel
theorem d8_97 : decode prog_23_method_13_code 97 = .ok (.goto 6, 3) := by decide +kernel
theorem d8_100 : decode prog_23_method_13_code 100 = .ok (.iload_n 2, 1) := by decide +kernel
theorem d8_101 : decode prog_23_method_13_code 101 = .ok (.iconst 1, 1) := by decide +kernel
theorem d8_102 : decode prog_23_method_13_code 102 = .ok (.iadd, 1) := by decide +kernel
theorem d8_103 : decode prog_23_method_13_code 103 = .ok (.istore_n 2, 1) := by decide +kernel
theorem d8_104 : decode prog_23_method_13_code 104 = .ok (.goto (-69), 3) := by decide +kernel
theorem d8_107 : decode prog_23_method_13_code 107 = .ok (.iload_n 2, 1) := by decide +kernel
theorem d8_108 : decode prog_23_method_13_code 108 = .ok (.aload_n 0, 1) := by decide +kernel
theorem d8_109 : decode prog_23_method_13_code 109 = .ok (.getfield 16, 3) := by decide +kernel
theorem d8_112 : decode prog_23_method_13_code 112 = .ok (.arraylength, 1) := by decide +kernel
theorem d8_113 : decode prog_23_method_13_code 113 = .ok (.if_icmp .lt 14, 3) := by decide +kernel
theorem d8_116 : decode prog_23_method_13_code 116 = .ok (.new 34, 3) := by decide +kernel
theorem d8_119 : decode prog_23_method_13_code 119 = .ok (.dup, 1) := by decide +kernel
theorem d8_120 : decode prog_23_method_13_code 120 = .ok (.ldc 139, 2) := by decide +kernel
theorem d8_122 : decode prog_23_method_13_code 122 = .ok (.iload_n 1, 1) := by decide +kernel
theorem d8_123 : decode prog_23_method_13_code 123 = .ok (.invokespecial 38, 3) := by decide +kernel
theorem d8_126 : decode prog_23_method_13_code 126 = .ok (.athrow, 1) := by decide +kernel
theorem d8_127 : decode prog_23_method_13_code 127 = .ok (.iload_n 2, 1) := by decide +kernel
theorem d8_128 : decode prog_23_method_13_code 128 = .ok (.iconst 1, 1) := by decide +kernel
theorem d8_129 : decode prog_23_method_13_code 129 = .ok (.iadd, 1) := by decide +kernel
theorem d8_130 : decode prog_23_method_13_code 130 = .ok (.ireturn, 1) := by decide +kernel
theorem pn_8 : plainFor (⟨"com/example/one_lookup/onelookup/json/JsonMembers", "string", "(I)I"⟩ : MethodName) = true := by first | exact plainFor_of_name (by first | (simp [plainName, overriddenIn]; done) | decide +kernel) | decide +kernel
theorem ef_8 (m : MethodId) (a : Addr) (i0 : Int32) : entryFrame m #[(.ref a), (.int i0)] 3 = (mkF m 0 #[.val (.ref a), .val (.int i0), .unset] []) := by first | (simp [entryFrame, mkF, argsToLocals, Value.category]; done) | rfl
set_option maxRecDepth 65536 in
set_option maxHeartbeats 40000000 in
theorem loopT {p : Program} {l : Launch} {e : Env} {s : State} {m : MethodId} {args : Array Value} {below : List Frame} {meth : Method} {c : Code} {Z : State} {a0 : Array Value} {h0 : Heap} {a t : Addr} {f : Nat → Int32} {y0 y2 y3 y4 y5 y6 : Value} (i0 : Int32) (i k : Nat) (hS : STR f 19 i k) (hw : ∀ d ∈ tables_1, d.before a0 Z = true) (P : JM Z h0 a y0 (.ref t) y2 y3 y4 y5 y6) (A : AI Z h0 t .byte 19 f) (C : Cx p c prog_23_method_13_code) (hZ : Z.Warmed39 s.vm) (hml : c.maxLocals = 3) (hown : s.vm.findClass "com/example/one_lookup/onelookup/json/JsonMembers" = some m.cls) (hret : meth.sig.returnType = some .int) (hlk : meth.locks = false) :
    ∀ (n j : Nat) (v : Int32) (T : State), v.toInt = j → i < j → j + n = k → Stand p l e ({ frames := 1, cells := 0, slots := 0, locals := 12 } : Room) s m args below meth c T [] 0 0 → T.heap = h0 →
      Ends p e below s (PQ (.int (Int32.ofNat (k + 1))) h0) 0 0 (T.setTop (mkF m 35 #[.val (.ref a), .val (.int i0), .val (.int v)] [])) := by
  obtain ⟨h1, h2, h3, h4, h5⟩ := hS
  intro n
  induction n with
  | zero =>
    intro j v T hv hi hn X e0
    obtain rfl : j = k := by omega
    refine o_iloadN C X d8_35 36 rfl rfl ?_
    refine o_aloadN C X d8_36 37 rfl rfl rfl ?_
    refine o_getF C X hZ hown (hw _ (List.mem_of_getElem? (i := 20) rfl)) Via.refl e0 P.2.2.1 d8_37 40 rfl ?_
    intro T X e0
    refine o_arraylength C X hZ e0 A (19 : Int32) rfl d8_40 41 rfl ?_
    refine o_icmpN C X d8_41 44 rfl (tlt (own_lt (k := 19) hv (by decide : (19 : Int32).toInt = 19) h2)).2.1 ?_
    refine o_aloadN C X d8_44 45 rfl rfl rfl ?_
    refine o_getF C X hZ hown (hw _ (List.mem_of_getElem? (i := 20) rfl)) Via.refl e0 P.2.2.1 d8_45 48 rfl ?_
    intro T X e0
    refine o_iloadN C X d8_48 49 rfl rfl ?_
    refine o_baload C X hZ e0 A (j) hv h2 d8_49 50 rfl ?_
    refine o_bipush C X d8_50 52 rfl (34 : Int32) (by decide) ?_
    refine o_icmpY C X d8_52 107 (by decide) (by decide) (teq h4).1 ?_
    refine o_iloadN C X d8_107 108 rfl rfl ?_
    refine o_aloadN C X d8_108 109 rfl rfl rfl ?_
    refine o_getF C X hZ hown (hw _ (List.mem_of_getElem? (i := 20) rfl)) Via.refl e0 P.2.2.1 d8_109 112 rfl ?_
    intro T X e0
    refine o_arraylength C X hZ e0 A (19 : Int32) rfl d8_112 113 rfl ?_
    refine o_icmpY C X d8_113 127 (by decide) (by decide) (tlt (own_lt (k := 19) hv (by decide : (19 : Int32).toInt = 19) h2)).1 ?_
    refine o_iloadN C X d8_127 128 rfl rfl ?_
    refine o_iconst C X d8_128 129 rfl (1 : Int32) (by decide) ?_
    refine o_iadd C X d8_129 130 rfl ?_
    exact o_retI C X hret hlk d8_130 ⟨congrArg some (congrArg _ (own_of (own_add hv rfl (by omega) (by decide)))), rfl, e0⟩ (Nat.le_refl _) (Nat.le_refl _)
  | succ n ih =>
    intro j v T hv hi hn X e0
    obtain ⟨g1, g2, g3⟩ := h5 j hi (by omega)
    refine o_iloadN C X d8_35 36 rfl rfl ?_
    refine o_aloadN C X d8_36 37 rfl rfl rfl ?_
    refine o_getF C X hZ hown (hw _ (List.mem_of_getElem? (i := 20) rfl)) Via.refl e0 P.2.2.1 d8_37 40 rfl ?_
    intro T X e0
    refine o_arraylength C X hZ e0 A (19 : Int32) rfl d8_40 41 rfl ?_
    refine o_icmpN C X d8_41 44 rfl (tlt (own_lt (k := 19) hv (by decide : (19 : Int32).toInt = 19) (by omega))).2.1 ?_
    refine o_aloadN C X d8_44 45 rfl rfl rfl ?_
    refine o_getF C X hZ hown (hw _ (List.mem_of_getElem? (i := 20) rfl)) Via.refl e0 P.2.2.1 d8_45 48 rfl ?_
    intro T X e0
    refine o_iloadN C X d8_48 49 rfl rfl ?_
    refine o_baload C X hZ e0 A (j) hv (by omega) d8_49 50 rfl ?_
    refine o_bipush C X d8_50 52 rfl (34 : Int32) (by decide) ?_
    refine o_icmpN C X d8_52 55 rfl (feq g1).1 ?_
    refine o_aloadN C X d8_55 56 rfl rfl rfl ?_
    refine o_getF C X hZ hown (hw _ (List.mem_of_getElem? (i := 20) rfl)) Via.refl e0 P.2.2.1 d8_56 59 rfl ?_
    intro T X e0
    refine o_iloadN C X d8_59 60 rfl rfl ?_
    refine o_baload C X hZ e0 A (j) hv (by omega) d8_60 61 rfl ?_
    refine o_callP C X hZ (by rw [hml]; rfl) (own := "com/example/one_lookup/onelookup/json/JsonMembers") (y := (⟨"java/lang/Byte", "toUnsignedInt", "(B)I"⟩ : MethodName)) (rf := 0) (rl := 0) hown (hw _ (List.mem_of_getElem? (i := 42) rfl)) (hw _ (List.mem_of_getElem? (i := 43) rfl)) (hw _ (List.mem_of_getElem? (i := 44) rfl)) (hw _ (List.mem_of_getElem? (i := 45) rfl)) (by decide) (asL := [(.int (f j))]) (rm9 l Z a0 hw (f j) h0) e0 pd_1 rfl rfl 0 (Nat.le_of_eq rfl) (by decide) (by decide) (by decide) (by decide) d8_61 64 rfl ?_
    intro T X e0
    refine o_bipush C X d8_64 66 rfl (32 : Int32) (by decide) ?_
    refine o_icmpY C X d8_66 80 (by decide) (by decide) (flt g2).2.1 ?_
    refine o_aloadN C X d8_80 81 rfl rfl rfl ?_
    refine o_getF C X hZ hown (hw _ (List.mem_of_getElem? (i := 20) rfl)) Via.refl e0 P.2.2.1 d8_81 84 rfl ?_
    intro T X e0
    refine o_iloadN C X d8_84 85 rfl rfl ?_
    refine o_baload C X hZ e0 A (j) hv (by omega) d8_85 86 rfl ?_
    refine o_bipush C X d8_86 88 rfl (92 : Int32) (by decide) ?_
    refine o_icmpY C X d8_88 100 (by decide) (by decide) (feq g3).2 ?_
    refine o_iloadN C X d8_100 101 rfl rfl ?_
    refine o_iconst C X d8_101 102 rfl (1 : Int32) (by decide) ?_
    refine o_iadd C X d8_102 103 rfl ?_
    refine o_istoreN C X d8_103 104 rfl #[.val (.ref a), .val (.int i0), .val (.int (v + (1 : Int32)))] rfl ?_
    refine o_goto C X d8_104 35 (by decide) (by decide) ?_
    exact ih (j + 1) _ T (own_add hv rfl (by omega) (by decide)) (by omega) (by omega) X e0
set_option maxRecDepth 65536 in
set_option maxHeartbeats 40000000 in
theorem rstring (l : Launch) (Z : State) (a0 : Array Value) (hw : ∀ d ∈ tables_1, d.before a0 Z = true) (a t : Addr) (f : Nat → Int32) (y0 y2 y3 y4 y5 y6 : Value) (i0 : Int32) (h0 : Heap) (i k : Nat) (hi : i0.toInt = i) (hS : STR f 19 i k) (P : JM Z h0 a y0 (.ref t) y2 y3 y4 y5 y6) (A : AI Z h0 t .byte 19 f) : Con l Z (⟨"com/example/one_lookup/onelookup/json/JsonMembers", "string", "(I)I"⟩ : MethodName) prog_23_method_13_code 3 (some .int) ({ frames := 1, cells := 0, slots := 0, locals := 12 } : Room) 0 0 [] #[(.ref a), (.int i0)] h0 (PQ (.int (Int32.ofNat (k + 1))) h0) := by
  refine Con.of pn_8 ?_
  intro p e s m below meth c T C hZ hml hown hret hnm hlk X e0
  rw [ef_8]
  obtain ⟨h1, h2, h3, h4, h5⟩ := id hS
  refine o_iloadN C X d8_0 1 rfl rfl ?_
  refine o_aloadN C X d8_1 2 rfl rfl rfl ?_
  refine o_getF C X hZ hown (hw _ (List.mem_of_getElem? (i := 20) rfl)) Via.refl e0 P.2.2.1 d8_2 5 rfl ?_
  intro T X e0
  refine o_arraylength C X hZ e0 A (19 : Int32) rfl d8_5 6 rfl ?_
  refine o_icmpN C X d8_6 9 rfl (tlt (own_lt (k := 19) hi (by decide : (19 : Int32).toInt = 19) (by omega))).2.1 ?_
  refine o_aloadN C X d8_9 10 rfl rfl rfl ?_
  refine o_getF C X hZ hown (hw _ (List.mem_of_getElem? (i := 20) rfl)) Via.refl e0 P.2.2.1 d8_10 13 rfl ?_
  intro T X e0
  refine o_iloadN C X d8_13 14 rfl rfl ?_
  refine o_baload C X hZ e0 A (i) hi (by omega) d8_14 15 rfl ?_
  refine o_bipush C X d8_15 17 rfl (34 : Int32) (by decide) ?_
  refine o_icmpY C X d8_17 31 (by decide) (by decide) (teq h3).1 ?_
  refine o_iloadN C X d8_31 32 rfl rfl ?_
  refine o_iconst C X d8_32 33 rfl (1 : Int32) (by decide) ?_
  refine o_iadd C X d8_33 34 rfl ?_
  refine o_istoreN C X d8_34 35 rfl #[.val (.ref a), .val (.int i0), .val (.int (i0 + (1 : Int32)))] rfl ?_
  exact loopT i0 i k hS hw P A C hZ hml hown hret hlk (k - (i + 1)) (i + 1) _ T (own_add hi rfl (by omega) (by decide)) (by omega) (by omega) X e0
theorem d15_0 : decode prog_23_method_12_code 0 = .ok (.iconst 0, 1) := by decide +kernel
theorem d15_1 : decode prog_23_method_12_code 1 = .ok (.istore_n 2, 1) := by decide +kernel
theorem d15_2 : decode prog_23_method_12_code 2 = .ok (.iload_n 1, 1) := by decide +kernel
theorem d15_3 : decode prog_23_method_12_code 3 = .ok (.istore_n 3, 1) := by decide +kernel
theorem d15_4 : decode prog_23_method_12_code 4 = .ok (.iload_n 3, 1) := by decide +kernel
theorem d15_5 : decode prog_23_method_12_code 5 = .ok (.aload_n 0, 1) := by decide +kernel
theorem d15_6 : decode prog_23_method_12_code 6 = .ok (.getfield 16, 3) := by decide +kernel
theorem d15_9 : decode prog_23_method_12_code 9 = .ok (.arraylength, 1) := by decide +kernel
theorem d15_10 : decode prog_23_method_12_code 10 = .ok (.if_icmp .lt 14, 3) := by decide +kernel
theorem d15_13 : decode prog_23_method_12_code 13 = .ok (.new 34, 3) := by decide +kernel
theorem d15_16 : decode prog_23_method_12_code 16 = .ok (.dup, 1) := by decide +kernel
theorem d15_17 : decode prog_23_method_12_code 17 = .ok (.ldc 123, 2) := by decide +kernel
theorem d15_19 : decode prog_23_method_12_code 19 = .ok (.iload_n 1, 1) := by decide +kernel
theorem d15_20 : decode prog_23_method_12_code 20 = .ok (.invokespecial 38, 3) := by decide +kernel
theorem d15_23 : decode prog_23_method_12_code 23 = .ok (.athrow, 1) := by decide +kernel
theorem d15_24 : decode prog_23_method_12_code 24 = .ok (.aload_n 0, 1) := by decide +kernel
theorem d15_25 : decode prog_23_method_12_code 25 = .ok (.getfield 16, 3) := by decide +kernel
theorem d15_28 : decode prog_23_method_12_code 28 = .ok (.iload_n 3, 1) := by decide +kernel
theorem d15_29 : decode prog_23_method_12_code 29 = .ok (.baload, 1) := by decide +kernel
theorem d15_30 : decode prog_23_method_12_code 30 = .ok (.istore 4, 2) := by decide +kernel
theorem d15_32 : decode prog_23_method_12_code 32 = .ok (.iload 4, 2) := by decide +kernel
theorem d15_34 : decode prog_23_method_12_code 34 = .ok (.bipush 34, 2) := by decide +kernel
theorem d15_36 : decode prog_23_method_12_code 36 = .ok (.if_icmp .ne 12, 3) := by decide +kernel
theorem d15_39 : decode prog_23_method_12_code 39 = .ok (.aload_n 0, 1) := by decide +kernel
theorem d15_40 : decode prog_23_method_12_code 40 = .ok (.iload_n 3, 1) := by decide +kernel
theorem d15_41 : decode prog_23_method_12_code 41 = .ok (.invokevirtual 41, 3) := by decide +kernel
theorem d15_44 : decode prog_23_method_12_code 44 = .ok (.istore_n 3, 1) := by decide +kernel
theorem d15_45 : decode prog_23_method_12_code 45 = .ok (.goto 43, 3) := by decide +kernel
theorem d15_48 : decode prog_23_method_12_code 48 = .ok (.iload 4, 2) := by decide +kernel
theorem d15_50 : decode prog_23_method_12_code 50 = .ok (.bipush 123, 2) := by decide +kernel
theorem d15_52 : decode prog_23_method_12_code 52 = .ok (.if_icmp .eq 10, 3) := by decide +kernel
theorem d15_55 : decode prog_23_method_12_code 55 = .ok (.iload 4, 2) := by decide +kernel
theorem d15_57 : decode prog_23_method_12_code 57 = .ok (.bipush 91, 2) := by decide +kernel
theorem d15_59 : decode prog_23_method_12_code 59 = .ok (.if_icmp .ne 9, 3) := by decide +kernel
theorem d15_62 : decode prog_23_method_12_code 62 = .ok (.iinc 2 1, 3) := by decide +kernel
theorem d15_65 : decode prog_23_method_12_code 65 = .ok (.goto 20, 3) := by decide +kernel
theorem d15_68 : decode prog_23_method_12_code 68 = .ok (.iload 4, 2) := by decide +kernel
theorem d15_70 : decode prog_23_method_12_code 70 = .ok (.bipush 125, 2) := by decide +kernel
theorem d15_72 : decode prog_23_method_12_code 72 = .ok (.if_icmp .eq 10, 3) := by decide +kernel
theorem d15_75 : decode prog_23_method_12_code 75 = .ok (.iload 4, 2) := by decide +kernel
theorem d15_77 : decode prog_23_method_12_code 77 = .ok (.bipush 93, 2) := by decide +kernel
theorem d15_79 : decode prog_23_method_12_code 79 = .ok (.if_icmp .ne 6, 3) := by decide +kernel
theorem d15_82 : decode prog_23_method_12_code 82 = .ok (.iinc 2 (-1), 3) := by decide +kernel
theorem d15_85 : decode prog_23_method_12_code 85 = .ok (.iinc 3 1, 3) := by decide +kernel
theorem d15_88 : decode prog_23_method_12_code 88 = .ok (.iload_n 2, 1) := by decide +kernel
theorem d15_89 : decode prog_23_method_12_code 89 = .ok (.ifCond .gt (-85), 3) := by decide +kernel
theorem d15_92 : decode prog_23_method_12_code 92 = .ok (.iload_n 3, 1) := by decide +kernel
theorem d15_93 : decode prog_23_method_12_code 93 = .ok (.ireturn, 1) := by decide +kernel
theorem pn_15 : plainFor (⟨"com/example/one_lookup/onelookup/json/JsonMembers", "nested", "(I)I"⟩ : MethodName) = true := by first | exact plainFor_of_name (by first | (simp [plainName, overriddenIn]; done) | decide +kernel) | decide +kernel
theorem ef_15 (m : MethodId) (a : Addr) (i0 : Int32) : entryFrame m #[(.ref a), (.int i0)] 5 = (mkF m 0 #[.val (.ref a), .val (.int i0), .unset, .unset, .unset] []) := by first | (simp [entryFrame, mkF, argsToLocals, Value.category]; done) | rfl
set_option maxRecDepth 65536 in
set_option maxHeartbeats 40000000 in
theorem rnested (l : Launch) (Z : State) (a0 : Array Value) (hw : ∀ d ∈ tables_1, d.before a0 Z = true) (a t : Addr) (f : Nat → Int32) (y0 y2 y3 y4 y5 y6 : Value) (i0 : Int32) (h0 : Heap) (i : Nat) (hi : i0.toInt = i) (hin : i + 1 < 19) (hN : (f i = 123 ∧ f (i + 1) = 125) ∨ (f i = 91 ∧ f (i + 1) = 93)) (P : JM Z h0 a y0 (.ref t) y2 y3 y4 y5 y6) (A : AI Z h0 t .byte 19 f) : Con l Z (⟨"com/example/one_lookup/onelookup/json/JsonMembers", "nested", "(I)I"⟩ : MethodName) prog_23_method_12_code 5 (some .int) ({ frames := 0, cells := 0, slots := 0, locals := 0 } : Room) 0 0 [] #[(.ref a), (.int i0)] h0 (PQ (.int (Int32.ofNat (i + 2))) h0) := by
  refine Con.of pn_15 ?_
  intro p e s m below meth c T C hZ hml hown hret hnm hlk X e0
  rw [ef_15]
  have a1 := own_add hi (w := 1) (k := 1) rfl (by omega) (by decide)
  have a2 := own_add a1 (w := 1) (k := 1) rfl (by omega) (by decide)
  rcases hN with ⟨h1, h2⟩ | ⟨h1, h2⟩
  · skip
    refine o_iconst C X d15_0 1 rfl (0 : Int32) (by decide) ?_
    refine o_istoreN C X d15_1 2 rfl #[.val (.ref a), .val (.int i0), .val (.int (0 : Int32)), .unset, .unset] rfl ?_
    refine o_iloadN C X d15_2 3 rfl rfl ?_
    refine o_istoreN C X d15_3 4 rfl #[.val (.ref a), .val (.int i0), .val (.int (0 : Int32)), .val (.int i0), .unset] rfl ?_
    refine o_iloadN C X d15_4 5 rfl rfl ?_
    refine o_aloadN C X d15_5 6 rfl rfl rfl ?_
    refine o_getF C X hZ hown (hw _ (List.mem_of_getElem? (i := 20) rfl)) Via.refl e0 P.2.2.1 d15_6 9 rfl ?_
    intro T X e0
    refine o_arraylength C X hZ e0 A (19 : Int32) rfl d15_9 10 rfl ?_
    refine o_icmpY C X d15_10 24 (by decide) (by decide) (tlt (own_lt (k := 19) hi (by decide : (19 : Int32).toInt = 19) (by omega))).1 ?_
    refine o_aloadN C X d15_24 25 rfl rfl rfl ?_
    refine o_getF C X hZ hown (hw _ (List.mem_of_getElem? (i := 20) rfl)) Via.refl e0 P.2.2.1 d15_25 28 rfl ?_
    intro T X e0
    refine o_iloadN C X d15_28 29 rfl rfl ?_
    refine o_baload C X hZ e0 A (i) hi (by omega) d15_29 30 rfl ?_
    refine o_istore C X d15_30 32 rfl #[.val (.ref a), .val (.int i0), .val (.int (0 : Int32)), .val (.int i0), .val (.int (f i))] rfl ?_
    refine o_iload C X d15_32 34 rfl rfl ?_
    refine o_bipush C X d15_34 36 rfl (34 : Int32) (by decide) ?_
    refine o_icmpY C X d15_36 48 (by decide) (by decide) (feq (by rw [h1]; decide : ¬ ((f i) = (34 : Int32)))).2 ?_
    refine o_iload C X d15_48 50 rfl rfl ?_
    refine o_bipush C X d15_50 52 rfl (123 : Int32) (by decide) ?_
    refine o_icmpY C X d15_52 62 (by decide) (by decide) (teq h1).1 ?_
    refine o_iinc C X (1 : Int32) d15_62 65 rfl #[.val (.ref a), .val (.int i0), .val (.int (1 : Int32)), .val (.int i0), .val (.int (f i))] rfl (by decide) rfl ?_
    refine o_goto C X d15_65 85 (by decide) (by decide) ?_
    refine o_iinc C X (i0 + (1 : Int32)) d15_85 88 rfl #[.val (.ref a), .val (.int i0), .val (.int (1 : Int32)), .val (.int (i0 + (1 : Int32))), .val (.int (f i))] rfl rfl rfl ?_
    refine o_iloadN C X d15_88 89 rfl rfl ?_
    refine o_ifY C X d15_89 4 (by decide) (by decide) ((if0 _ _).trans (tlt (by decide : (0 : Int32) < (1 : Int32))).2.2.1) ?_
    refine o_iloadN C X d15_4 5 rfl rfl ?_
    refine o_aloadN C X d15_5 6 rfl rfl rfl ?_
    refine o_getF C X hZ hown (hw _ (List.mem_of_getElem? (i := 20) rfl)) Via.refl e0 P.2.2.1 d15_6 9 rfl ?_
    intro T X e0
    refine o_arraylength C X hZ e0 A (19 : Int32) rfl d15_9 10 rfl ?_
    refine o_icmpY C X d15_10 24 (by decide) (by decide) (tlt (own_lt (k := 19) a1 (by decide : (19 : Int32).toInt = 19) (by omega))).1 ?_
    refine o_aloadN C X d15_24 25 rfl rfl rfl ?_
    refine o_getF C X hZ hown (hw _ (List.mem_of_getElem? (i := 20) rfl)) Via.refl e0 P.2.2.1 d15_25 28 rfl ?_
    intro T X e0
    refine o_iloadN C X d15_28 29 rfl rfl ?_
    refine o_baload C X hZ e0 A (i + 1) a1 (by omega) d15_29 30 rfl ?_
    refine o_istore C X d15_30 32 rfl #[.val (.ref a), .val (.int i0), .val (.int (1 : Int32)), .val (.int (i0 + (1 : Int32))), .val (.int (f (i + 1)))] rfl ?_
    refine o_iload C X d15_32 34 rfl rfl ?_
    refine o_bipush C X d15_34 36 rfl (34 : Int32) (by decide) ?_
    refine o_icmpY C X d15_36 48 (by decide) (by decide) (feq (by rw [h2]; decide : ¬ ((f (i + 1)) = (34 : Int32)))).2 ?_
    refine o_iload C X d15_48 50 rfl rfl ?_
    refine o_bipush C X d15_50 52 rfl (123 : Int32) (by decide) ?_
    refine o_icmpN C X d15_52 55 rfl (feq (by rw [h2]; decide : ¬ ((f (i + 1)) = (123 : Int32)))).1 ?_
    refine o_iload C X d15_55 57 rfl rfl ?_
    refine o_bipush C X d15_57 59 rfl (91 : Int32) (by decide) ?_
    refine o_icmpY C X d15_59 68 (by decide) (by decide) (feq (by rw [h2]; decide : ¬ ((f (i + 1)) = (91 : Int32)))).2 ?_
    refine o_iload C X d15_68 70 rfl rfl ?_
    refine o_bipush C X d15_70 72 rfl (125 : Int32) (by decide) ?_
    refine o_icmpY C X d15_72 82 (by decide) (by decide) (teq h2).1 ?_
    refine o_iinc C X (0 : Int32) d15_82 85 rfl #[.val (.ref a), .val (.int i0), .val (.int (0 : Int32)), .val (.int (i0 + (1 : Int32))), .val (.int (f (i + 1)))] rfl (by decide) rfl ?_
    refine o_iinc C X ((i0 + (1 : Int32)) + (1 : Int32)) d15_85 88 rfl #[.val (.ref a), .val (.int i0), .val (.int (0 : Int32)), .val (.int ((i0 + (1 : Int32)) + (1 : Int32))), .val (.int (f (i + 1)))] rfl rfl rfl ?_
    refine o_iloadN C X d15_88 89 rfl rfl ?_
    refine o_ifN C X d15_89 92 rfl ((if0 _ _).trans (flt (by decide : ¬ ((0 : Int32) < (0 : Int32)))).2.2.1) ?_
    refine o_iloadN C X d15_92 93 rfl rfl ?_
    exact o_retI C X hret hlk d15_93 ⟨congrArg some (congrArg _ (own_of a2)), rfl, e0⟩ (Nat.le_refl _) (Nat.le_refl _)
  · skip
    refine o_iconst C X d15_0 1 rfl (0 : Int32) (by decide) ?_
    refine o_istoreN C X d15_1 2 rfl #[.val (.ref a), .val (.int i0), .val (.int (0 : Int32)), .unset, .unset] rfl ?_
    refine o_iloadN C X d15_2 3 rfl rfl ?_
    refine o_istoreN C X d15_3 4 rfl #[.val (.ref a), .val (.int i0), .val (.int (0 : Int32)), .val (.int i0), .unset] rfl ?_
    refine o_iloadN C X d15_4 5 rfl rfl ?_
    refine o_aloadN C X d15_5 6 rfl rfl rfl ?_
    refine o_getF C X hZ hown (hw _ (List.mem_of_getElem? (i := 20) rfl)) Via.refl e0 P.2.2.1 d15_6 9 rfl ?_
    intro T X e0
    refine o_arraylength C X hZ e0 A (19 : Int32) rfl d15_9 10 rfl ?_
    refine o_icmpY C X d15_10 24 (by decide) (by decide) (tlt (own_lt (k := 19) hi (by decide : (19 : Int32).toInt = 19) (by omega))).1 ?_
    refine o_aloadN C X d15_24 25 rfl rfl rfl ?_
    refine o_getF C X hZ hown (hw _ (List.mem_of_getElem? (i := 20) rfl)) Via.refl e0 P.2.2.1 d15_25 28 rfl ?_
    intro T X e0
    refine o_iloadN C X d15_28 29 rfl rfl ?_
    refine o_baload C X hZ e0 A (i) hi (by omega) d15_29 30 rfl ?_
    refine o_istore C X d15_30 32 rfl #[.val (.ref a), .val (.int i0), .val (.int (0 : Int32)), .val (.int i0), .val (.int (f i))] rfl ?_
    refine o_iload C X d15_32 34 rfl rfl ?_
    refine o_bipush C X d15_34 36 rfl (34 : Int32) (by decide) ?_
    refine o_icmpY C X d15_36 48 (by decide) (by decide) (feq (by rw [h1]; decide : ¬ ((f i) = (34 : Int32)))).2 ?_
    refine o_iload C X d15_48 50 rfl rfl ?_
    refine o_bipush C X d15_50 52 rfl (123 : Int32) (by decide) ?_
    refine o_icmpN C X d15_52 55 rfl (feq (by rw [h1]; decide : ¬ ((f i) = (123 : Int32)))).1 ?_
    refine o_iload C X d15_55 57 rfl rfl ?_
    refine o_bipush C X d15_57 59 rfl (91 : Int32) (by decide) ?_
    refine o_icmpN C X d15_59 62 rfl (teq h1).2 ?_
    refine o_iinc C X (1 : Int32) d15_62 65 rfl #[.val (.ref a), .val (.int i0), .val (.int (1 : Int32)), .val (.int i0), .val (.int (f i))] rfl (by decide) rfl ?_
    refine o_goto C X d15_65 85 (by decide) (by decide) ?_
    refine o_iinc C X (i0 + (1 : Int32)) d15_85 88 rfl #[.val (.ref a), .val (.int i0), .val (.int (1 : Int32)), .val (.int (i0 + (1 : Int32))), .val (.int (f i))] rfl rfl rfl ?_
    refine o_iloadN C X d15_88 89 rfl rfl ?_
    refine o_ifY C X d15_89 4 (by decide) (by decide) ((if0 _ _).trans (tlt (by decide : (0 : Int32) < (1 : Int32))).2.2.1) ?_
    refine o_iloadN C X d15_4 5 rfl rfl ?_
    refine o_aloadN C X d15_5 6 rfl rfl rfl ?_
    refine o_getF C X hZ hown (hw _ (List.mem_of_getElem? (i := 20) rfl)) Via.refl e0 P.2.2.1 d15_6 9 rfl ?_
    intro T X e0
    refine o_arraylength C X hZ e0 A (19 : Int32) rfl d15_9 10 rfl ?_
    refine o_icmpY C X d15_10 24 (by decide) (by decide) (tlt (own_lt (k := 19) a1 (by decide : (19 : Int32).toInt = 19) (by omega))).1 ?_
    refine o_aloadN C X d15_24 25 rfl rfl rfl ?_
    refine o_getF C X hZ hown (hw _ (List.mem_of_getElem? (i := 20) rfl)) Via.refl e0 P.2.2.1 d15_25 28 rfl ?_
    intro T X e0
    refine o_iloadN C X d15_28 29 rfl rfl ?_
    refine o_baload C X hZ e0 A (i + 1) a1 (by omega) d15_29 30 rfl ?_
    refine o_istore C X d15_30 32 rfl #[.val (.ref a), .val (.int i0), .val (.int (1 : Int32)), .val (.int (i0 + (1 : Int32))), .val (.int (f (i + 1)))] rfl ?_
    refine o_iload C X d15_32 34 rfl rfl ?_
    refine o_bipush C X d15_34 36 rfl (34 : Int32) (by decide) ?_
    refine o_icmpY C X d15_36 48 (by decide) (by decide) (feq (by rw [h2]; decide : ¬ ((f (i + 1)) = (34 : Int32)))).2 ?_
    refine o_iload C X d15_48 50 rfl rfl ?_
    refine o_bipush C X d15_50 52 rfl (123 : Int32) (by decide) ?_
    refine o_icmpN C X d15_52 55 rfl (feq (by rw [h2]; decide : ¬ ((f (i + 1)) = (123 : Int32)))).1 ?_
    refine o_iload C X d15_55 57 rfl rfl ?_
    refine o_bipush C X d15_57 59 rfl (91 : Int32) (by decide) ?_
    refine o_icmpY C X d15_59 68 (by decide) (by decide) (feq (by rw [h2]; decide : ¬ ((f (i + 1)) = (91 : Int32)))).2 ?_
    refine o_iload C X d15_68 70 rfl rfl ?_
    refine o_bipush C X d15_70 72 rfl (125 : Int32) (by decide) ?_
    refine o_icmpN C X d15_72 75 rfl (feq (by rw [h2]; decide : ¬ ((f (i + 1)) = (125 : Int32)))).1 ?_
    refine o_iload C X d15_75 77 rfl rfl ?_
    refine o_bipush C X d15_77 79 rfl (93 : Int32) (by decide) ?_
    refine o_icmpN C X d15_79 82 rfl (teq h2).2 ?_
    refine o_iinc C X (0 : Int32) d15_82 85 rfl #[.val (.ref a), .val (.int i0), .val (.int (0 : Int32)), .val (.int (i0 + (1 : Int32))), .val (.int (f (i + 1)))] rfl (by decide) rfl ?_
    refine o_iinc C X ((i0 + (1 : Int32)) + (1 : Int32)) d15_85 88 rfl #[.val (.ref a), .val (.int i0), .val (.int (0 : Int32)), .val (.int ((i0 + (1 : Int32)) + (1 : Int32))), .val (.int (f (i + 1)))] rfl rfl rfl ?_
    refine o_iloadN C X d15_88 89 rfl rfl ?_
    refine o_ifN C X d15_89 92 rfl ((if0 _ _).trans (flt (by decide : ¬ ((0 : Int32) < (0 : Int32)))).2.2.1) ?_
    refine o_iloadN C X d15_92 93 rfl rfl ?_
    exact o_retI C X hret hlk d15_93 ⟨congrArg some (congrArg _ (own_of a2)), rfl, e0⟩ (Nat.le_refl _) (Nat.le_refl _)
def VAL (f : Nat → Int32) (lim i en : Nat) : Prop := (∃ k, STR f lim i k ∧ en = k + 1) ∨ (i + 1 < lim ∧ ((f i = 123 ∧ f (i + 1) = 125) ∨ (f i = 91 ∧ f (i + 1) = 93)) ∧ en = i + 2) ∨ (i < en ∧ en < lim ∧ ¬ f i = 34 ∧ ¬ f i = 123 ∧ ¬ f i = 91 ∧ (∀ m, i ≤ m → m < en → FEn (f m) = 0) ∧ ¬ FEn (f en) = 0 ∧ (f i = 45 ∨ ¬ FDg (f i) = 0 ∨ ¬ FLt (f i) = 0))
theorem d10_0 : decode prog_23_method_11_code 0 = .ok (.iload_n 1, 1) := by decide +kernel
theorem d10_1 : decode prog_23_method_11_code 1 = .ok (.aload_n 0, 1) := by decide +kernel
theorem d10_2 : decode prog_23_method_11_code 2 = .ok (.getfield 16, 3) := by decide +kernel
theorem d10_5 : decode prog_23_method_11_code 5 = .ok (.arraylength, 1) := by decide +kernel
theorem d10_6 : decode prog_23_method_11_code 6 = .ok (.if_icmp .lt 14, 3) := by decide +kernel
theorem d10_9 : decode prog_23_method_11_code 9 = .ok (.new 34, 3) := by decide +kernel
theorem d10_12 : decode prog_23_method_11_code 12 = .ok (.dup, 1) := by decide +kernel
theorem d10_13 : decode prog_23_method_11_code 13 = .ok (.ldc 115, 2) := by decide +kernel
theorem d10_15 : decode prog_23_method_11_code 15 = .ok (.iload_n 1, 1) := by decide +kernel
theorem d10_16 : decode prog_23_method_11_code 16 = .ok (.invokespecial 38, 3) := by decide +kernel
theorem d10_19 : decode prog_23_method_11_code 19 = .ok (.athrow, 1) := by decide +kernel
theorem d10_20 : decode prog_23_method_11_code 20 = .ok (.aload_n 0, 1) := by decide +kernel
theorem d10_21 : decode prog_23_method_11_code 21 = .ok (.getfield 16, 3) := by decide +kernel
theorem d10_24 : decode prog_23_method_11_code 24 = .ok (.iload_n 1, 1) := by decide +kernel
theorem d10_25 : decode prog_23_method_11_code 25 = .ok (.baload, 1) := by decide +kernel
theorem d10_26 : decode prog_23_method_11_code 26 = .ok (.bipush 34, 2) := by decide +kernel
theorem d10_28 : decode prog_23_method_11_code 28 = .ok (.if_icmp .ne 12, 3) := by decide +kernel
theorem d10_31 : decode prog_23_method_11_code 31 = .ok (.aload_n 0, 1) := by decide +kernel
theorem d10_32 : decode prog_23_method_11_code 32 = .ok (.iload_n 1, 1) := by decide +kernel
theorem d10_33 : decode prog_23_method_11_code 33 = .ok (.invokevirtual 41, 3) := by decide +kernel
theorem d10_36 : decode prog_23_method_11_code 36 = .ok (.istore_n 2, 1) := by decide +kernel
theorem d10_37 : decode prog_23_method_11_code 37 = .ok (.goto 124, 3) := by decide +kernel
theorem d10_40 : decode prog_23_method_11_code 40 = .ok (.aload_n 0, 1) := by decide +kernel
theorem d10_41 : decode prog_23_method_11_code 41 = .ok (.getfield 16, 3) := by decide +kernel
theorem d10_44 : decode prog_23_method_11_code 44 = .ok (.iload_n 1, 1) := by decide +kernel
theorem d10_45 : decode prog_23_method_11_code 45 = .ok (.baload, 1) := by decide +kernel
theorem d10_46 : decode prog_23_method_11_code 46 = .ok (.bipush 123, 2) := by decide +kernel
theorem d10_48 : decode prog_23_method_11_code 48 = .ok (.if_icmp .eq 14, 3) := by decide +kernel
theorem d10_51 : decode prog_23_method_11_code 51 = .ok (.aload_n 0, 1) := by decide +kernel
theorem d10_52 : decode prog_23_method_11_code 52 = .ok (.getfield 16, 3) := by decide +kernel
theorem d10_55 : decode prog_23_method_11_code 55 = .ok (.iload_n 1, 1) := by decide +kernel
theorem d10_56 : decode prog_23_method_11_code 56 = .ok (.baload, 1) := by decide +kernel
theorem d10_57 : decode prog_23_method_11_code 57 = .ok (.bipush 91, 2) := by decide +kernel
theorem d10_59 : decode prog_23_method_11_code 59 = .ok (.if_icmp .ne 12, 3) := by decide +kernel
theorem d10_62 : decode prog_23_method_11_code 62 = .ok (.aload_n 0, 1) := by decide +kernel
theorem d10_63 : decode prog_23_method_11_code 63 = .ok (.iload_n 1, 1) := by decide +kernel
theorem d10_64 : decode prog_23_method_11_code 64 = .ok (.invokevirtual 90, 3) := by decide +kernel
theorem d10_67 : decode prog_23_method_11_code 67 = .ok (.istore_n 2, 1) := by decide +kernel
theorem d10_68 : decode prog_23_method_11_code 68 = .ok (.goto 93, 3) := by decide +kernel
theorem d10_71 : decode prog_23_method_11_code 71 = .ok (.iload_n 1, 1) := by decide +kernel
theorem d10_72 : decode prog_23_method_11_code 72 = .ok (.istore_n 2, 1) := by decide +kernel
theorem d10_73 : decode prog_23_method_11_code 73 = .ok (.iload_n 2, 1) := by decide +kernel
theorem d10_74 : decode prog_23_method_11_code 74 = .ok (.aload_n 0, 1) := by decide +kernel
theorem d10_75 : decode prog_23_method_11_code 75 = .ok (.getfield 16, 3) := by decide +kernel
theorem d10_78 : decode prog_23_method_11_code 78 = .ok (.arraylength, 1) := by decide +kernel
theorem d10_79 : decode prog_23_method_11_code 79 = .ok (.if_icmp .ge 21, 3) := by decide +kernel
theorem d10_82 : decode prog_23_method_11_code 82 = .ok (.aload_n 0, 1) := by decide +kernel
theorem d10_83 : decode prog_23_method_11_code 83 = .ok (.getfield 16, 3) := by decide +kernel
theorem d10_86 : decode prog_23_method_11_code 86 = .ok (.iload_n 2, 1) := by decide +kernel
theorem d10_87 : decode prog_23_method_11_code 87 = .ok (.baload, 1) := by decide +kernel
theorem d10_88 : decode prog_23_method_11_code 88 = .ok (.invokestatic 117, 3) := by decide +kernel
theorem d10_91 : decode prog_23_method_11_code 91 = .ok (.ifCond .ne 9, 3) := by decide +kernel
theorem d10_94 : decode prog_23_method_11_code 94 = .ok (.iinc 2 1, 3) := by decide +kernel
theorem d10_97 : decode prog_23_method_11_code 97 = .ok (.goto (-24), 3) := by decide +kernel
theorem d10_100 : decode prog_23_method_11_code 100 = .ok (.aload_n 0, 1) := by decide +kernel
theorem d10_101 : decode prog_23_method_11_code 101 = .ok (.getfield 16, 3) := by decide +kernel
theorem d10_104 : decode prog_23_method_11_code 104 = .ok (.iload_n 1, 1) := by decide +kernel
theorem d10_105 : decode prog_23_method_11_code 105 = .ok (.baload, 1) := by decide +kernel
theorem d10_106 : decode prog_23_method_11_code 106 = .ok (.bipush 45, 2) := by decide +kernel
theorem d10_108 : decode prog_23_method_11_code 108 = .ok (.if_icmp .eq 27, 3) := by decide +kernel
theorem d10_111 : decode prog_23_method_11_code 111 = .ok (.aload_n 0, 1) := by decide +kernel
theorem d10_112 : decode prog_23_method_11_code 112 = .ok (.getfield 16, 3) := by decide +kernel
theorem d10_115 : decode prog_23_method_11_code 115 = .ok (.iload_n 1, 1) := by decide +kernel
theorem d10_116 : decode prog_23_method_11_code 116 = .ok (.baload, 1) := by decide +kernel
theorem d10_117 : decode prog_23_method_11_code 117 = .ok (.invokestatic 63, 3) := by decide +kernel
theorem d10_120 : decode prog_23_method_11_code 120 = .ok (.ifCond .ne 15, 3) := by decide +kernel
theorem d10_123 : decode prog_23_method_11_code 123 = .ok (.aload_n 0, 1) := by decide +kernel
theorem d10_124 : decode prog_23_method_11_code 124 = .ok (.getfield 16, 3) := by decide +kernel
theorem d10_127 : decode prog_23_method_11_code 127 = .ok (.iload_n 1, 1) := by decide +kernel
theorem d10_128 : decode prog_23_method_11_code 128 = .ok (.baload, 1) := by decide +kernel
theorem d10_129 : decode prog_23_method_11_code 129 = .ok (.invokestatic 120, 3) := by decide +kernel
theorem d10_132 : decode prog_23_method_11_code 132 = .ok (.ifCond .eq 7, 3) := by decide +kernel
theorem d10_135 : decode prog_23_method_11_code 135 = .ok (.iconst 1, 1) := by decide +kernel
theorem d10_136 : decode prog_23_method_11_code 136 = .ok (.goto 4, 3) := by decide +kernel
theorem d10_139 : decode prog_23_method_11_code 139 = .ok (.iconst 0, 1) := by decide +kernel
theorem d10_140 : decode prog_23_method_11_code 140 = .ok (.istore_n 3, 1) := by decide +kernel
theorem d10_141 : decode prog_23_method_11_code 141 = .ok (.iload_n 2, 1) := by decide +kernel
theorem d10_142 : decode prog_23_method_11_code 142 = .ok (.iload_n 1, 1) := by decide +kernel
theorem d10_143 : decode prog_23_method_11_code 143 = .ok (.if_icmp .eq 7, 3) := by decide +kernel
theorem d10_146 : decode prog_23_method_11_code 146 = .ok (.iload_n 3, 1) := by decide +kernel
theorem d10_147 : decode prog_23_method_11_code 147 = .ok (.ifCond .ne 14, 3) := by decide +kernel
theorem d10_150 : decode prog_23_method_11_code 150 = .ok (.new 34, 3) := by decide +kernel
theorem d10_153 : decode prog_23_method_11_code 153 = .ok (.dup, 1) := by decide +kernel
theorem d10_154 : decode prog_23_method_11_code 154 = .ok (.ldc 115, 2) := by decide +kernel
theorem d10_156 : decode prog_23_method_11_code 156 = .ok (.iload_n 1, 1) := by decide +kernel
theorem d10_157 : decode prog_23_method_11_code 157 = .ok (.invokespecial 38, 3) := by decide +kernel
theorem d10_160 : decode prog_23_method_11_code 160 = .ok (.athrow, 1) := by decide +kernel
theorem d10_161 : decode prog_23_method_11_code 161 = .ok (.iload_n 2, 1) := by decide +kernel
theorem d10_162 : decode prog_23_method_11_code 162 = .ok (.ireturn, 1) := by decide +kernel
theorem pn_10 : plainFor (⟨"com/example/one_lookup/onelookup/json/JsonMembers", "value", "(I)I"⟩ : MethodName) = true := by first | exact plainFor_of_name (by first | (simp [plainName, overriddenIn]; done) | decide +kernel) | decide +kernel
theorem ef_10 (m : MethodId) (a : Addr) (i0 : Int32) : entryFrame m #[(.ref a), (.int i0)] 4 = (mkF m 0 #[.val (.ref a), .val (.int i0), .unset, .unset] []) := by first | (simp [entryFrame, mkF, argsToLocals, Value.category]; done) | rfl
theorem pd_2 : parseMethodDescriptor "(I)I" = some ⟨[.int], some .int⟩ := by decide +kernel
set_option maxRecDepth 65536 in
set_option maxHeartbeats 40000000 in
theorem loopV {p : Program} {l : Launch} {e : Env} {s : State} {m : MethodId} {args : Array Value} {below : List Frame} {meth : Method} {c : Code} {Z : State} {a0 : Array Value} {h0 : Heap} {a t : Addr} {f : Nat → Int32} {y0 y2 y3 y4 y5 y6 : Value} {Q : Option Value → Heap → List Loc → Prop} (i0 : Int32) (i en : Nat) (hen : en < 19) (hz : ∀ k, i ≤ k → k < en → FEn (f k) = 0) (hnz : ¬ FEn (f en) = 0) (hw : ∀ d ∈ tables_1, d.before a0 Z = true) (P : JM Z h0 a y0 (.ref t) y2 y3 y4 y5 y6) (A : AI Z h0 t .byte 19 f) (C : Cx p c prog_23_method_11_code) (hZ : Z.Warmed39 s.vm) (hml : c.maxLocals = 4) (hown : s.vm.findClass "com/example/one_lookup/onelookup/json/JsonMembers" = some m.cls) (hret : meth.sig.returnType = some .int) (hlk : meth.locks = false)
    (kk : ∀ (v : Int32) (T : State), v.toInt = en → Stand p l e ({ frames := 2, cells := 0, slots := 0, locals := 26 } : Room) s m args below meth c T [] 0 0 → T.heap = h0 → Ends p e below s Q 0 0 (T.setTop (mkF m 100 #[.val (.ref a), .val (.int i0), .val (.int v), .unset] []))) :
    ∀ (n j : Nat) (v : Int32) (T : State), v.toInt = j → i ≤ j → j + n = en → Stand p l e ({ frames := 2, cells := 0, slots := 0, locals := 26 } : Room) s m args below meth c T [] 0 0 → T.heap = h0 →
      Ends p e below s Q 0 0 (T.setTop (mkF m 73 #[.val (.ref a), .val (.int i0), .val (.int v), .unset] [])) := by
  intro n
  induction n with
  | zero =>
    intro j v T hv hi hn X e0
    obtain rfl : j = en := by omega
    refine o_iloadN C X d10_73 74 rfl rfl ?_
    refine o_aloadN C X d10_74 75 rfl rfl rfl ?_
    refine o_getF C X hZ hown (hw _ (List.mem_of_getElem? (i := 20) rfl)) Via.refl e0 P.2.2.1 d10_75 78 rfl ?_
    intro T X e0
    refine o_arraylength C X hZ e0 A (19 : Int32) rfl d10_78 79 rfl ?_
    refine o_icmpN C X d10_79 82 rfl (tlt (own_lt (k := 19) hv (by decide : (19 : Int32).toInt = 19) hen)).2.1 ?_
    refine o_aloadN C X d10_82 83 rfl rfl rfl ?_
    refine o_getF C X hZ hown (hw _ (List.mem_of_getElem? (i := 20) rfl)) Via.refl e0 P.2.2.1 d10_83 86 rfl ?_
    intro T X e0
    refine o_iloadN C X d10_86 87 rfl rfl ?_
    refine o_baload C X hZ e0 A (j) hv hen d10_87 88 rfl ?_
    refine o_callP C X hZ (by rw [hml]; rfl) (own := "com/example/one_lookup/onelookup/json/JsonMembers") (y := (⟨"com/example/one_lookup/onelookup/json/JsonMembers", "endsScalar", "(B)Z"⟩ : MethodName)) (rf := 1) (rl := 12) hown (hw _ (List.mem_of_getElem? (i := 61) rfl)) (hw _ (List.mem_of_getElem? (i := 62) rfl)) (hw _ (List.mem_of_getElem? (i := 8) rfl)) (hw _ (List.mem_of_getElem? (i := 63) rfl)) (by decide) (asL := [(.int (f j))]) (rm12 l Z a0 hw (f j) h0) e0 pd_0 rfl rfl 0 (Nat.le_of_eq rfl) (by decide) (by decide) (by decide) (by decide) d10_88 91 rfl ?_
    intro T X e0
    refine o_ifY C X d10_91 100 (by decide) (by decide) ((if0 _ _).trans (feq hnz).2) ?_
    exact kk v T hv X e0
  | succ n ih =>
    intro j v T hv hi hn X e0
    refine o_iloadN C X d10_73 74 rfl rfl ?_
    refine o_aloadN C X d10_74 75 rfl rfl rfl ?_
    refine o_getF C X hZ hown (hw _ (List.mem_of_getElem? (i := 20) rfl)) Via.refl e0 P.2.2.1 d10_75 78 rfl ?_
    intro T X e0
    refine o_arraylength C X hZ e0 A (19 : Int32) rfl d10_78 79 rfl ?_
    refine o_icmpN C X d10_79 82 rfl (tlt (own_lt (k := 19) hv (by decide : (19 : Int32).toInt = 19) (by omega))).2.1 ?_
    refine o_aloadN C X d10_82 83 rfl rfl rfl ?_
    refine o_getF C X hZ hown (hw _ (List.mem_of_getElem? (i := 20) rfl)) Via.refl e0 P.2.2.1 d10_83 86 rfl ?_
    intro T X e0
    refine o_iloadN C X d10_86 87 rfl rfl ?_
    refine o_baload C X hZ e0 A (j) hv (by omega) d10_87 88 rfl ?_
    refine o_callP C X hZ (by rw [hml]; rfl) (own := "com/example/one_lookup/onelookup/json/JsonMembers") (y := (⟨"com/example/one_lookup/onelookup/json/JsonMembers", "endsScalar", "(B)Z"⟩ : MethodName)) (rf := 1) (rl := 12) hown (hw _ (List.mem_of_getElem? (i := 61) rfl)) (hw _ (List.mem_of_getElem? (i := 62) rfl)) (hw _ (List.mem_of_getElem? (i := 8) rfl)) (hw _ (List.mem_of_getElem? (i := 63) rfl)) (by decide) (asL := [(.int (f j))]) (rm12 l Z a0 hw (f j) h0) e0 pd_0 rfl rfl 0 (Nat.le_of_eq rfl) (by decide) (by decide) (by decide) (by decide) d10_88 91 rfl ?_
    intro T X e0
    refine o_ifN C X d10_91 94 rfl ((if0 _ _).trans (teq (hz j hi (by omega))).2) ?_
    refine o_iinc C X (v + (1 : Int32)) d10_94 97 rfl #[.val (.ref a), .val (.int i0), .val (.int (v + (1 : Int32))), .unset] rfl rfl rfl ?_
    refine o_goto C X d10_97 73 (by decide) (by decide) ?_
    exact ih (j + 1) _ T (own_add hv rfl (by omega) (by decide)) (by omega) (by omega) X e0
set_option maxRecDepth 65536 in
set_option maxHeartbeats 40000000 in
theorem rvalue (l : Launch) (Z : State) (a0 : Array Value) (hw : ∀ d ∈ tables_1, d.before a0 Z = true) (a t : Addr) (f : Nat → Int32) (y0 y2 y3 y4 y5 y6 : Value) (i0 : Int32) (h0 : Heap) (i en : Nat) (hi : i0.toInt = i) (hV : VAL f 19 i en) (P : JM Z h0 a y0 (.ref t) y2 y3 y4 y5 y6) (A : AI Z h0 t .byte 19 f) : Con l Z (⟨"com/example/one_lookup/onelookup/json/JsonMembers", "value", "(I)I"⟩ : MethodName) prog_23_method_11_code 4 (some .int) ({ frames := 2, cells := 0, slots := 0, locals := 26 } : Room) 0 0 [] #[(.ref a), (.int i0)] h0 (PQ (.int (Int32.ofNat en)) h0) := by
  refine Con.of pn_10 ?_
  intro p e s m below meth c T C hZ hml hown hret hnm hlk X e0
  rw [ef_10]
  have hi19 : i < 19 := by
    rcases hV with ⟨k, h, -⟩ | ⟨h, -⟩ | ⟨h, h', -⟩
    · have := h.1; have := h.2.1; omega
    · omega
    · omega
  refine o_iloadN C X d10_0 1 rfl rfl ?_
  refine o_aloadN C X d10_1 2 rfl rfl rfl ?_
  refine o_getF C X hZ hown (hw _ (List.mem_of_getElem? (i := 20) rfl)) Via.refl e0 P.2.2.1 d10_2 5 rfl ?_
  intro T X e0
  refine o_arraylength C X hZ e0 A (19 : Int32) rfl d10_5 6 rfl ?_
  refine o_icmpY C X d10_6 20 (by decide) (by decide) (tlt (own_lt (k := 19) hi (by decide : (19 : Int32).toInt = 19) hi19)).1 ?_
  refine o_aloadN C X d10_20 21 rfl rfl rfl ?_
  refine o_getF C X hZ hown (hw _ (List.mem_of_getElem? (i := 20) rfl)) Via.refl e0 P.2.2.1 d10_21 24 rfl ?_
  intro T X e0
  refine o_iloadN C X d10_24 25 rfl rfl ?_
  refine o_baload C X hZ e0 A (i) hi hi19 d10_25 26 rfl ?_
  refine o_bipush C X d10_26 28 rfl (34 : Int32) (by decide) ?_
  rcases hV with ⟨k, hS, rfl⟩ | ⟨h, hN, rfl⟩ | ⟨z1, z2, z3, z4, z5, z6, z7, z8⟩
  · skip
    refine o_icmpN C X d10_28 31 rfl (teq hS.2.2.1).2 ?_
    refine o_aloadN C X d10_31 32 rfl rfl rfl ?_
    refine o_iloadN C X d10_32 33 rfl rfl ?_
    refine o_callPrP C X hZ (by rw [hml]; rfl) (own := "com/example/one_lookup/onelookup/json/JsonMembers") (y := (⟨"com/example/one_lookup/onelookup/json/JsonMembers", "string", "(I)I"⟩ : MethodName)) (y' := (⟨"com/example/one_lookup/onelookup/json/JsonMembers", "next", "()Z"⟩ : MethodName)) (rf := 1) (rl := 12) hown (hw _ (List.mem_of_getElem? (i := 38) rfl)) (hw _ (List.mem_of_getElem? (i := 39) rfl)) (hw _ (List.mem_of_getElem? (i := 40) rfl)) (hw _ (List.mem_of_getElem? (i := 27) rfl)) rfl (hw _ (List.mem_of_getElem? (i := 8) rfl)) (hw _ (List.mem_of_getElem? (i := 41) rfl)) (by decide) (asL := [(.int i0)]) (a := a) (rstring l Z a0 hw a t f y0 y2 y3 y4 y5 y6 i0 h0 i k hi hS P A) e0 P.1 pd_2 rfl rfl 0 (Nat.le_of_eq rfl) (by decide) (by decide) (by decide) (by decide) d10_33 36 rfl ?_
    intro T X e0
    refine o_istoreN C X d10_36 37 rfl #[.val (.ref a), .val (.int i0), .val (.int (Int32.ofNat (k + 1))), .unset] rfl ?_
    refine o_goto C X d10_37 161 (by decide) (by decide) ?_
    refine o_iloadN C X d10_161 162 rfl rfl ?_
    exact o_retI C X hret hlk d10_162 ⟨congrArg some (congrArg _ (rfl)), rfl, e0⟩ (Nat.le_refl _) (Nat.le_refl _)
  · skip
    refine o_icmpY C X d10_28 40 (by decide) (by decide) (feq (by rcases hN with ⟨g, -⟩ | ⟨g, -⟩ <;> rw [g] <;> decide : ¬ ((f i) = (34 : Int32)))).2 ?_
    refine o_aloadN C X d10_40 41 rfl rfl rfl ?_
    refine o_getF C X hZ hown (hw _ (List.mem_of_getElem? (i := 20) rfl)) Via.refl e0 P.2.2.1 d10_41 44 rfl ?_
    intro T X e0
    refine o_iloadN C X d10_44 45 rfl rfl ?_
    refine o_baload C X hZ e0 A (i) hi hi19 d10_45 46 rfl ?_
    refine o_bipush C X d10_46 48 rfl (123 : Int32) (by decide) ?_
    by_cases g1 : (f i) = (123 : Int32)
    · skip
      refine o_icmpY C X d10_48 62 (by decide) (by decide) (teq g1).1 ?_
      refine o_aloadN C X d10_62 63 rfl rfl rfl ?_
      refine o_iloadN C X d10_63 64 rfl rfl ?_
      refine o_callPrP C X hZ (by rw [hml]; rfl) (own := "com/example/one_lookup/onelookup/json/JsonMembers") (y := (⟨"com/example/one_lookup/onelookup/json/JsonMembers", "nested", "(I)I"⟩ : MethodName)) (y' := (⟨"com/example/one_lookup/onelookup/json/JsonMembers", "next", "()Z"⟩ : MethodName)) (rf := 0) (rl := 0) hown (hw _ (List.mem_of_getElem? (i := 70) rfl)) (hw _ (List.mem_of_getElem? (i := 71) rfl)) (hw _ (List.mem_of_getElem? (i := 72) rfl)) (hw _ (List.mem_of_getElem? (i := 27) rfl)) rfl (hw _ (List.mem_of_getElem? (i := 8) rfl)) (hw _ (List.mem_of_getElem? (i := 73) rfl)) (by decide) (asL := [(.int i0)]) (a := a) (rnested l Z a0 hw a t f y0 y2 y3 y4 y5 y6 i0 h0 i hi h hN P A) e0 P.1 pd_2 rfl rfl 0 (Nat.le_of_eq rfl) (by decide) (by decide) (by decide) (by decide) d10_64 67 rfl ?_
      intro T X e0
      refine o_istoreN C X d10_67 68 rfl #[.val (.ref a), .val (.int i0), .val (.int (Int32.ofNat (i + 2))), .unset] rfl ?_
      refine o_goto C X d10_68 161 (by decide) (by decide) ?_
      refine o_iloadN C X d10_161 162 rfl rfl ?_
      exact o_retI C X hret hlk d10_162 ⟨congrArg some (congrArg _ (rfl)), rfl, e0⟩ (Nat.le_refl _) (Nat.le_refl _)
    · skip
      refine o_icmpN C X d10_48 51 rfl (feq g1).1 ?_
      refine o_aloadN C X d10_51 52 rfl rfl rfl ?_
      refine o_getF C X hZ hown (hw _ (List.mem_of_getElem? (i := 20) rfl)) Via.refl e0 P.2.2.1 d10_52 55 rfl ?_
      intro T X e0
      refine o_iloadN C X d10_55 56 rfl rfl ?_
      refine o_baload C X hZ e0 A (i) hi hi19 d10_56 57 rfl ?_
      refine o_bipush C X d10_57 59 rfl (91 : Int32) (by decide) ?_
      refine o_icmpN C X d10_59 62 rfl (teq (by rcases hN with ⟨g, -⟩ | ⟨g, -⟩; exact absurd g g1; exact g : (f i) = (91 : Int32))).2 ?_
      refine o_aloadN C X d10_62 63 rfl rfl rfl ?_
      refine o_iloadN C X d10_63 64 rfl rfl ?_
      refine o_callPrP C X hZ (by rw [hml]; rfl) (own := "com/example/one_lookup/onelookup/json/JsonMembers") (y := (⟨"com/example/one_lookup/onelookup/json/JsonMembers", "nested", "(I)I"⟩ : MethodName)) (y' := (⟨"com/example/one_lookup/onelookup/json/JsonMembers", "next", "()Z"⟩ : MethodName)) (rf := 0) (rl := 0) hown (hw _ (List.mem_of_getElem? (i := 70) rfl)) (hw _ (List.mem_of_getElem? (i := 71) rfl)) (hw _ (List.mem_of_getElem? (i := 72) rfl)) (hw _ (List.mem_of_getElem? (i := 27) rfl)) rfl (hw _ (List.mem_of_getElem? (i := 8) rfl)) (hw _ (List.mem_of_getElem? (i := 73) rfl)) (by decide) (asL := [(.int i0)]) (a := a) (rnested l Z a0 hw a t f y0 y2 y3 y4 y5 y6 i0 h0 i hi h hN P A) e0 P.1 pd_2 rfl rfl 0 (Nat.le_of_eq rfl) (by decide) (by decide) (by decide) (by decide) d10_64 67 rfl ?_
      intro T X e0
      refine o_istoreN C X d10_67 68 rfl #[.val (.ref a), .val (.int i0), .val (.int (Int32.ofNat (i + 2))), .unset] rfl ?_
      refine o_goto C X d10_68 161 (by decide) (by decide) ?_
      refine o_iloadN C X d10_161 162 rfl rfl ?_
      exact o_retI C X hret hlk d10_162 ⟨congrArg some (congrArg _ (rfl)), rfl, e0⟩ (Nat.le_refl _) (Nat.le_refl _)
  · skip
    refine o_icmpY C X d10_28 40 (by decide) (by decide) (feq z3).2 ?_
    refine o_aloadN C X d10_40 41 rfl rfl rfl ?_
    refine o_getF C X hZ hown (hw _ (List.mem_of_getElem? (i := 20) rfl)) Via.refl e0 P.2.2.1 d10_41 44 rfl ?_
    intro T X e0
    refine o_iloadN C X d10_44 45 rfl rfl ?_
    refine o_baload C X hZ e0 A (i) hi hi19 d10_45 46 rfl ?_
    refine o_bipush C X d10_46 48 rfl (123 : Int32) (by decide) ?_
    refine o_icmpN C X d10_48 51 rfl (feq z4).1 ?_
    refine o_aloadN C X d10_51 52 rfl rfl rfl ?_
    refine o_getF C X hZ hown (hw _ (List.mem_of_getElem? (i := 20) rfl)) Via.refl e0 P.2.2.1 d10_52 55 rfl ?_
    intro T X e0
    refine o_iloadN C X d10_55 56 rfl rfl ?_
    refine o_baload C X hZ e0 A (i) hi hi19 d10_56 57 rfl ?_
    refine o_bipush C X d10_57 59 rfl (91 : Int32) (by decide) ?_
    refine o_icmpY C X d10_59 71 (by decide) (by decide) (feq z5).2 ?_
    refine o_iloadN C X d10_71 72 rfl rfl ?_
    refine o_istoreN C X d10_72 73 rfl #[.val (.ref a), .val (.int i0), .val (.int i0), .unset] rfl ?_
    refine loopV (a0 := a0) i0 i en z2 z6 z7 hw P A C hZ hml hown hret hlk ?_ (en - i) i i0 T hi (Nat.le_refl _) (by omega) X e0
    intro v T hv X e0
    have hne : ¬ v = i0 := fun q => by rw [q] at hv; omega
    refine o_aloadN C X d10_100 101 rfl rfl rfl ?_
    refine o_getF C X hZ hown (hw _ (List.mem_of_getElem? (i := 20) rfl)) Via.refl e0 P.2.2.1 d10_101 104 rfl ?_
    intro T X e0
    refine o_iloadN C X d10_104 105 rfl rfl ?_
    refine o_baload C X hZ e0 A (i) hi hi19 d10_105 106 rfl ?_
    refine o_bipush C X d10_106 108 rfl (45 : Int32) (by decide) ?_
    by_cases g1 : (f i) = (45 : Int32)
    · skip
      refine o_icmpY C X d10_108 135 (by decide) (by decide) (teq g1).1 ?_
      refine o_iconst C X d10_135 136 rfl (1 : Int32) (by decide) ?_
      refine o_goto C X d10_136 140 (by decide) (by decide) ?_
      refine o_istoreN C X d10_140 141 rfl #[.val (.ref a), .val (.int i0), .val (.int v), .val (.int (1 : Int32))] rfl ?_
      refine o_iloadN C X d10_141 142 rfl rfl ?_
      refine o_iloadN C X d10_142 143 rfl rfl ?_
      refine o_icmpN C X d10_143 146 rfl (feq hne).1 ?_
      refine o_iloadN C X d10_146 147 rfl rfl ?_
      refine o_ifY C X d10_147 161 (by decide) (by decide) ((if0 _ _).trans (feq (by decide : ¬ ((1 : Int32) = (0 : Int32)))).2) ?_
      refine o_iloadN C X d10_161 162 rfl rfl ?_
      exact o_retI C X hret hlk d10_162 ⟨congrArg some (congrArg _ (own_of hv)), rfl, e0⟩ (Nat.le_refl _) (Nat.le_refl _)
    · skip
      refine o_icmpN C X d10_108 111 rfl (feq g1).1 ?_
      refine o_aloadN C X d10_111 112 rfl rfl rfl ?_
      refine o_getF C X hZ hown (hw _ (List.mem_of_getElem? (i := 20) rfl)) Via.refl e0 P.2.2.1 d10_112 115 rfl ?_
      intro T X e0
      refine o_iloadN C X d10_115 116 rfl rfl ?_
      refine o_baload C X hZ e0 A (i) hi hi19 d10_116 117 rfl ?_
      refine o_callP C X hZ (by rw [hml]; rfl) (own := "com/example/one_lookup/onelookup/json/JsonMembers") (y := (⟨"com/example/one_lookup/onelookup/json/JsonMembers", "isDigit", "(B)Z"⟩ : MethodName)) (rf := 0) (rl := 0) hown (hw _ (List.mem_of_getElem? (i := 64) rfl)) (hw _ (List.mem_of_getElem? (i := 65) rfl)) (hw _ (List.mem_of_getElem? (i := 8) rfl)) (hw _ (List.mem_of_getElem? (i := 66) rfl)) (by decide) (asL := [(.int (f i))]) (rm13 l Z a0 hw (f i) h0) e0 pd_0 rfl rfl 0 (Nat.le_of_eq rfl) (by decide) (by decide) (by decide) (by decide) d10_117 120 rfl ?_
      intro T X e0
      by_cases g2 : (FDg (f i)) = (0 : Int32)
      · skip
        refine o_ifN C X d10_120 123 rfl ((if0 _ _).trans (teq g2).2) ?_
        refine o_aloadN C X d10_123 124 rfl rfl rfl ?_
        refine o_getF C X hZ hown (hw _ (List.mem_of_getElem? (i := 20) rfl)) Via.refl e0 P.2.2.1 d10_124 127 rfl ?_
        intro T X e0
        refine o_iloadN C X d10_127 128 rfl rfl ?_
        refine o_baload C X hZ e0 A (i) hi hi19 d10_128 129 rfl ?_
        refine o_callP C X hZ (by rw [hml]; rfl) (own := "com/example/one_lookup/onelookup/json/JsonMembers") (y := (⟨"com/example/one_lookup/onelookup/json/JsonMembers", "isLetter", "(B)Z"⟩ : MethodName)) (rf := 0) (rl := 0) hown (hw _ (List.mem_of_getElem? (i := 67) rfl)) (hw _ (List.mem_of_getElem? (i := 68) rfl)) (hw _ (List.mem_of_getElem? (i := 8) rfl)) (hw _ (List.mem_of_getElem? (i := 69) rfl)) (by decide) (asL := [(.int (f i))]) (rm14 l Z a0 hw (f i) h0) e0 pd_0 rfl rfl 0 (Nat.le_of_eq rfl) (by decide) (by decide) (by decide) (by decide) d10_129 132 rfl ?_
        intro T X e0
        refine o_ifN C X d10_132 135 rfl ((if0 _ _).trans (feq (by rcases z8 with g | g | g; exact absurd g g1; exact absurd g2 g; exact g : ¬ ((FLt (f i)) = (0 : Int32)))).1) ?_
        refine o_iconst C X d10_135 136 rfl (1 : Int32) (by decide) ?_
        refine o_goto C X d10_136 140 (by decide) (by decide) ?_
        refine o_istoreN C X d10_140 141 rfl #[.val (.ref a), .val (.int i0), .val (.int v), .val (.int (1 : Int32))] rfl ?_
        refine o_iloadN C X d10_141 142 rfl rfl ?_
        refine o_iloadN C X d10_142 143 rfl rfl ?_
        refine o_icmpN C X d10_143 146 rfl (feq hne).1 ?_
        refine o_iloadN C X d10_146 147 rfl rfl ?_
        refine o_ifY C X d10_147 161 (by decide) (by decide) ((if0 _ _).trans (feq (by decide : ¬ ((1 : Int32) = (0 : Int32)))).2) ?_
        refine o_iloadN C X d10_161 162 rfl rfl ?_
        exact o_retI C X hret hlk d10_162 ⟨congrArg some (congrArg _ (own_of hv)), rfl, e0⟩ (Nat.le_refl _) (Nat.le_refl _)
      · skip
        refine o_ifY C X d10_120 135 (by decide) (by decide) ((if0 _ _).trans (feq g2).2) ?_
        refine o_iconst C X d10_135 136 rfl (1 : Int32) (by decide) ?_
        refine o_goto C X d10_136 140 (by decide) (by decide) ?_
        refine o_istoreN C X d10_140 141 rfl #[.val (.ref a), .val (.int i0), .val (.int v), .val (.int (1 : Int32))] rfl ?_
        refine o_iloadN C X d10_141 142 rfl rfl ?_
        refine o_iloadN C X d10_142 143 rfl rfl ?_
        refine o_icmpN C X d10_143 146 rfl (feq hne).1 ?_
        refine o_iloadN C X d10_146 147 rfl rfl ?_
        refine o_ifY C X d10_147 161 (by decide) (by decide) ((if0 _ _).trans (feq (by decide : ¬ ((1 : Int32) = (0 : Int32)))).2) ?_
        refine o_iloadN C X d10_161 162 rfl rfl ?_
        exact o_retI C X hret hlk d10_162 ⟨congrArg some (congrArg _ (own_of hv)), rfl, e0⟩ (Nat.le_refl _) (Nat.le_refl _)
def FS (f : Nat → Int32) (i : Nat) : Int32 := if f i = (34 : Int32) then 1 else 0
theorem d11_0 : decode prog_23_method_5_code 0 = .ok (.aload_n 0, 1) := by decide +kernel
theorem d11_1 : decode prog_23_method_5_code 1 = .ok (.getfield 16, 3) := by decide +kernel
theorem d11_4 : decode prog_23_method_5_code 4 = .ok (.aload_n 0, 1) := by decide +kernel
theorem d11_5 : decode prog_23_method_5_code 5 = .ok (.getfield 49, 3) := by decide +kernel
theorem d11_8 : decode prog_23_method_5_code 8 = .ok (.baload, 1) := by decide +kernel
theorem d11_9 : decode prog_23_method_5_code 9 = .ok (.bipush 34, 2) := by decide +kernel
theorem d11_11 : decode prog_23_method_5_code 11 = .ok (.if_icmp .ne 7, 3) := by decide +kernel
theorem d11_14 : decode prog_23_method_5_code 14 = .ok (.iconst 1, 1) := by decide +kernel
theorem d11_15 : decode prog_23_method_5_code 15 = .ok (.goto 4, 3) := by decide +kernel
theorem d11_18 : decode prog_23_method_5_code 18 = .ok (.iconst 0, 1) := by decide +kernel
theorem d11_19 : decode prog_23_method_5_code 19 = .ok (.ireturn, 1) := by decide +kernel
theorem pn_11 : plainFor (⟨"com/example/one_lookup/onelookup/json/JsonMembers", "isString", "()Z"⟩ : MethodName) = true := by first | exact plainFor_of_name (by first | (simp [plainName, overriddenIn]; done) | decide +kernel) | decide +kernel
theorem ef_11 (m : MethodId) (a : Addr) : entryFrame m #[(.ref a)] 1 = (mkF m 0 #[.val (.ref a)] []) := by first | (simp [entryFrame, mkF, argsToLocals, Value.category]; done) | rfl
set_option maxRecDepth 65536 in
set_option maxHeartbeats 40000000 in
theorem rm11 (l : Launch) (Z : State) (a0 : Array Value) (hw : ∀ d ∈ tables_1, d.before a0 Z = true) (a t : Addr) (f : Nat → Int32) (y0 y2 y3 y4 y5 y6 : Value) (i0 : Int32) (h0 : Heap) (i : Nat) (hi : i0.toInt = i) (h19 : i < 19) (hy5 : y5 = .int i0) (P : JM Z h0 a y0 (.ref t) y2 y3 y4 y5 y6) (A : AI Z h0 t .byte 19 f) : Con l Z (⟨"com/example/one_lookup/onelookup/json/JsonMembers", "isString", "()Z"⟩ : MethodName) prog_23_method_5_code 1 (some .boolean) ({ frames := 0, cells := 0, slots := 0, locals := 0 } : Room) 0 0 [] #[(.ref a)] h0 (PQ (.int (FS f i)) h0) := by
  refine Con.of pn_11 ?_
  intro p e s m below meth c T C hZ hml hown hret hnm hlk X e0
  rw [ef_11]
  subst hy5
  refine o_aloadN C X d11_0 1 rfl rfl rfl ?_
  refine o_getF C X hZ hown (hw _ (List.mem_of_getElem? (i := 20) rfl)) Via.refl e0 P.2.2.1 d11_1 4 rfl ?_
  intro T X e0
  refine o_aloadN C X d11_4 5 rfl rfl rfl ?_
  refine o_getF C X hZ hown (hw _ (List.mem_of_getElem? (i := 48) rfl)) Via.refl e0 P.2.2.2.2.2.2.1 d11_5 8 rfl ?_
  intro T X e0
  refine o_baload C X hZ e0 A (i) hi h19 d11_8 9 rfl ?_
  refine o_bipush C X d11_9 11 rfl (34 : Int32) (by decide) ?_
  by_cases g : (f i) = (34 : Int32)
  · skip
    refine o_icmpN C X d11_11 14 rfl (teq g).2 ?_
    refine o_iconst C X d11_14 15 rfl (1 : Int32) (by decide) ?_
    refine o_goto C X d11_15 19 (by decide) (by decide) ?_
    exact o_retN C X hret (by simp) hlk d11_19 ⟨congrArg some (congrArg _ (by rw [FS, if_pos g]; rfl)), rfl, e0⟩ (Nat.le_refl _) (Nat.le_refl _)
  · skip
    refine o_icmpY C X d11_11 18 (by decide) (by decide) (feq g).2 ?_
    refine o_iconst C X d11_18 19 rfl (0 : Int32) (by decide) ?_
    exact o_retN C X hret (by simp) hlk d11_19 ⟨congrArg some (congrArg _ (by rw [FS, if_neg g]; rfl)), rfl, e0⟩ (Nat.le_refl _) (Nat.le_refl _)
theorem d3_0 : decode prog_23_method_2_code 0 = .ok (.aload_n 0, 1) := by decide +kernel
theorem d3_1 : decode prog_23_method_2_code 1 = .ok (.invokespecial 7, 3) := by decide +kernel
theorem d3_4 : decode prog_23_method_2_code 4 = .ok (.aload_n 0, 1) := by decide +kernel
theorem d3_5 : decode prog_23_method_2_code 5 = .ok (.iconst (-1), 1) := by decide +kernel
theorem d3_6 : decode prog_23_method_2_code 6 = .ok (.putfield 12, 3) := by decide +kernel
theorem d3_9 : decode prog_23_method_2_code 9 = .ok (.aload_n 0, 1) := by decide +kernel
theorem d3_10 : decode prog_23_method_2_code 10 = .ok (.aload_n 1, 1) := by decide +kernel
theorem d3_11 : decode prog_23_method_2_code 11 = .ok (.putfield 16, 3) := by decide +kernel
theorem d3_14 : decode prog_23_method_2_code 14 = .ok (.aload_n 0, 1) := by decide +kernel
theorem d3_15 : decode prog_23_method_2_code 15 = .ok (.iload_n 2, 1) := by decide +kernel
theorem d3_16 : decode prog_23_method_2_code 16 = .ok (.putfield 20, 3) := by decide +kernel
theorem d3_19 : decode prog_23_method_2_code 19 = .ok (.return_, 1) := by decide +kernel
theorem pn_3 : plainFor (⟨"com/example/one_lookup/onelookup/json/JsonMembers", "<init>", "([BI)V"⟩ : MethodName) = true := by first | exact plainFor_of_name (by first | (simp [plainName, overriddenIn]; done) | decide +kernel) | decide +kernel
theorem ef_3 (m : MethodId) (a : Addr) (t : Addr) (u0 : Int32) : entryFrame m #[(.ref a), (.ref t), (.int u0)] 3 = (mkF m 0 #[.val (.ref a), .val (.ref t), .val (.int u0)] []) := by first | (simp [entryFrame, mkF, argsToLocals, Value.category]; done) | rfl
set_option maxRecDepth 65536 in
set_option maxHeartbeats 40000000 in
theorem rm3 (l : Launch) (Z : State) (a0 : Array Value) (hw : ∀ d ∈ tables_1, d.before a0 Z = true) (a t : Addr) (u0 : Int32) (h0 : Heap) (n0 : Nat) (ge_a : n0 ≤ a) (P : JM Z h0 a (.int 0) .null (.int 0) (.int 0) (.int 0) (.int 0) (.int 0)) : Con l Z (⟨"com/example/one_lookup/onelookup/json/JsonMembers", "<init>", "([BI)V"⟩ : MethodName) prog_23_method_2_code 3 none ({ frames := 1, cells := 0, slots := 0, locals := 12 } : Room) 0 0 [] #[(.ref a), (.ref t), (.int u0)] h0 (fun v h L => v = none ∧ Fr n0 L ∧ Keep h0 h [a] ∧ JM Z h a (.int (-1)) (.ref t) (.int u0) (.int 0) (.int 0) (.int 0) (.int 0)) := by
  refine Con.of pn_3 ?_
  intro p e s m below meth c T C hZ hml hown hret hnm hlk X e0
  rw [ef_3]
  have N0 := Fr.nil n0
  refine o_aloadN C X d3_0 1 rfl rfl rfl ?_
  refine o_initO C X hZ (by rw [hml]; rfl) hown (hw _ (List.mem_of_getElem? (i := 15) rfl)) (hw _ (List.mem_of_getElem? (i := 16) rfl)) (hw _ (List.mem_of_getElem? (i := 17) rfl)) e0 0 (Nat.le_of_eq rfl) (by decide) (by decide) d3_1 4 rfl ?_
  intro T X e0
  refine o_aloadN C X d3_4 5 rfl rfl rfl ?_
  refine o_iconst C X d3_5 6 rfl (-1 : Int32) (by decide) ?_
  refine o_putF C X hZ hown (hw _ (List.mem_of_getElem? (i := 18) rfl)) Via.refl e0 P.2.1 P.1 (Or.inl (hw _ (List.mem_of_getElem? (i := 19) rfl))) (hw _ (List.mem_of_getElem? (i := 7) rfl)) (ty := .int) (by decide) rfl rfl d3_6 9 rfl N0 ge_a ?_
  intro T h_1 locs_1 X e_1 W_1 N0
  have Pa_1 := P.wr0 hw W_1
  have K_1 := (Keep.refl h0 [a]).wr W_1 (Or.inl (by simp))
  refine o_aloadN C X d3_9 10 rfl rfl rfl ?_
  refine o_aloadN C X d3_10 11 rfl rfl rfl ?_
  refine o_putF C X hZ hown (hw _ (List.mem_of_getElem? (i := 20) rfl)) Via.refl e_1 Pa_1.2.2.1 Pa_1.1 (Or.inr ⟨(hw _ (List.mem_of_getElem? (i := 21) rfl)), rfl, hnm⟩) (hw _ (List.mem_of_getElem? (i := 7) rfl)) (ty := (.array .byte)) (by decide) rfl rfl d3_11 14 rfl N0 ge_a ?_
  intro T h_2 locs_2 X e_2 W_2 N0
  have Pa_2 := Pa_1.wr1 hw W_2
  have K_2 := K_1.wr W_2 (Or.inl (by simp))
  refine o_aloadN C X d3_14 15 rfl rfl rfl ?_
  refine o_iloadN C X d3_15 16 rfl rfl ?_
  refine o_putF C X hZ hown (hw _ (List.mem_of_getElem? (i := 22) rfl)) Via.refl e_2 Pa_2.2.2.2.1 Pa_2.1 (Or.inr ⟨(hw _ (List.mem_of_getElem? (i := 23) rfl)), rfl, hnm⟩) (hw _ (List.mem_of_getElem? (i := 7) rfl)) (ty := .int) (by decide) rfl rfl d3_16 19 rfl N0 ge_a ?_
  intro T h_3 locs_3 X e_3 W_3 N0
  have Pa_3 := Pa_2.wr2 hw W_3
  have K_3 := K_2.wr W_3 (Or.inl (by simp))
  exact o_ret C X hret hlk d3_19 (by subst e_3; exact ⟨rfl, N0, K_3, Pa_3⟩) (Nat.le_refl _) (Nat.le_refl _)
theorem pd_3 : parseMethodDescriptor "([BI)V" = some ⟨[(.array .byte), .int], none⟩ := by decide +kernel
theorem d2_0 : decode prog_23_method_1_code 0 = .ok (.aload_n 0, 1) := by decide +kernel
theorem d2_1 : decode prog_23_method_1_code 1 = .ok (.aload_n 1, 1) := by decide +kernel
theorem d2_2 : decode prog_23_method_1_code 2 = .ok (.iconst 0, 1) := by decide +kernel
theorem d2_3 : decode prog_23_method_1_code 3 = .ok (.invokespecial 1, 3) := by decide +kernel
theorem d2_6 : decode prog_23_method_1_code 6 = .ok (.return_, 1) := by decide +kernel
theorem pn_2 : plainFor (⟨"com/example/one_lookup/onelookup/json/JsonMembers", "<init>", "([B)V"⟩ : MethodName) = true := by first | exact plainFor_of_name (by first | (simp [plainName, overriddenIn]; done) | decide +kernel) | decide +kernel
theorem ef_2 (m : MethodId) (a : Addr) (t : Addr) : entryFrame m #[(.ref a), (.ref t)] 2 = (mkF m 0 #[.val (.ref a), .val (.ref t)] []) := by first | (simp [entryFrame, mkF, argsToLocals, Value.category]; done) | rfl
set_option maxRecDepth 65536 in
set_option maxHeartbeats 40000000 in
theorem rm2 (l : Launch) (Z : State) (a0 : Array Value) (hw : ∀ d ∈ tables_1, d.before a0 Z = true) (a t : Addr) (h0 : Heap) (n0 : Nat) (ge_a : n0 ≤ a) (P : JM Z h0 a (.int 0) .null (.int 0) (.int 0) (.int 0) (.int 0) (.int 0)) : Con l Z (⟨"com/example/one_lookup/onelookup/json/JsonMembers", "<init>", "([B)V"⟩ : MethodName) prog_23_method_1_code 2 none ({ frames := 2, cells := 0, slots := 0, locals := 26 } : Room) 0 0 [] #[(.ref a), (.ref t)] h0 (fun v h L => v = none ∧ Fr n0 L ∧ Keep h0 h [a] ∧ JM Z h a (.int (-1)) (.ref t) (.int 0) (.int 0) (.int 0) (.int 0) (.int 0)) := by
  refine Con.of pn_2 ?_
  intro p e s m below meth c T C hZ hml hown hret hnm hlk X e0
  rw [ef_2]
  have N0 := Fr.nil n0
  refine o_aloadN C X d2_0 1 rfl rfl rfl ?_
  refine o_aloadN C X d2_1 2 rfl rfl rfl ?_
  refine o_iconst C X d2_2 3 rfl (0 : Int32) (by decide) ?_
  refine o_callI C X hZ (by rw [hml]; rfl) (own := "com/example/one_lookup/onelookup/json/JsonMembers") (y := (⟨"com/example/one_lookup/onelookup/json/JsonMembers", "<init>", "([BI)V"⟩ : MethodName)) hown rfl (hw _ (List.mem_of_getElem? (i := 12) rfl)) (hw _ (List.mem_of_getElem? (i := 13) rfl)) (hw _ (List.mem_of_getElem? (i := 8) rfl)) (hw _ (List.mem_of_getElem? (i := 14) rfl)) (by decide) (asL := [(.ref t), (.int (0 : Int32))]) (a := a) (rm3 l Z a0 hw a t (0 : Int32) h0 n0 ge_a P) e0 pd_3 rfl rfl 0 (Nat.le_of_eq rfl) (by decide) (by decide) (by decide) (by decide) d2_3 6 rfl ?_
  rintro T h_1 _ L_1 X e_1 ⟨rfl, N_1, K_1, P_1⟩
  have N0 := Fr.app N0 N_1
  exact o_ret C X hret hlk d2_6 (by subst e_1; exact ⟨rfl, N0, K_1, P_1⟩) (Nat.le_refl _) (Nat.le_refl _)
theorem d5_0 : decode prog_23_method_3_code 0 = .ok (.iconst 0, 1) := by decide +kernel
theorem d5_1 : decode prog_23_method_3_code 1 = .ok (.istore_n 1, 1) := by decide +kernel
theorem d5_2 : decode prog_23_method_3_code 2 = .ok (.iconst 0, 1) := by decide +kernel
theorem d5_3 : decode prog_23_method_3_code 3 = .ok (.istore_n 2, 1) := by decide +kernel
theorem d5_4 : decode prog_23_method_3_code 4 = .ok (.aload_n 0, 1) := by decide +kernel
theorem d5_5 : decode prog_23_method_3_code 5 = .ok (.getfield 23, 3) := by decide +kernel
theorem d5_8 : decode prog_23_method_3_code 8 = .ok (.ifCond .ne 74, 3) := by decide +kernel
theorem d5_11 : decode prog_23_method_3_code 11 = .ok (.aload_n 0, 1) := by decide +kernel
theorem d5_12 : decode prog_23_method_3_code 12 = .ok (.iconst 1, 1) := by decide +kernel
theorem d5_13 : decode prog_23_method_3_code 13 = .ok (.putfield 23, 3) := by decide +kernel
theorem d5_16 : decode prog_23_method_3_code 16 = .ok (.aload_n 0, 1) := by decide +kernel
theorem d5_17 : decode prog_23_method_3_code 17 = .ok (.aload_n 0, 1) := by decide +kernel
theorem d5_18 : decode prog_23_method_3_code 18 = .ok (.getfield 20, 3) := by decide +kernel
theorem d5_21 : decode prog_23_method_3_code 21 = .ok (.invokevirtual 27, 3) := by decide +kernel
theorem d5_24 : decode prog_23_method_3_code 24 = .ok (.istore_n 2, 1) := by decide +kernel
theorem d5_25 : decode prog_23_method_3_code 25 = .ok (.iload_n 2, 1) := by decide +kernel
theorem d5_26 : decode prog_23_method_3_code 26 = .ok (.aload_n 0, 1) := by decide +kernel
theorem d5_27 : decode prog_23_method_3_code 27 = .ok (.getfield 16, 3) := by decide +kernel
theorem d5_30 : decode prog_23_method_3_code 30 = .ok (.arraylength, 1) := by decide +kernel
theorem d5_31 : decode prog_23_method_3_code 31 = .ok (.if_icmp .ge 132, 3) := by decide +kernel
theorem d5_34 : decode prog_23_method_3_code 34 = .ok (.aload_n 0, 1) := by decide +kernel
theorem d5_35 : decode prog_23_method_3_code 35 = .ok (.getfield 16, 3) := by decide +kernel
theorem d5_38 : decode prog_23_method_3_code 38 = .ok (.iload_n 2, 1) := by decide +kernel
theorem d5_39 : decode prog_23_method_3_code 39 = .ok (.baload, 1) := by decide +kernel
theorem d5_40 : decode prog_23_method_3_code 40 = .ok (.bipush 123, 2) := by decide +kernel
theorem d5_42 : decode prog_23_method_3_code 42 = .ok (.if_icmp .ne 121, 3) := by decide +kernel
theorem d5_45 : decode prog_23_method_3_code 45 = .ok (.aload_n 0, 1) := by decide +kernel
theorem d5_46 : decode prog_23_method_3_code 46 = .ok (.iload_n 2, 1) := by decide +kernel
theorem d5_47 : decode prog_23_method_3_code 47 = .ok (.iconst 1, 1) := by decide +kernel
theorem d5_48 : decode prog_23_method_3_code 48 = .ok (.iadd, 1) := by decide +kernel
theorem d5_49 : decode prog_23_method_3_code 49 = .ok (.invokevirtual 27, 3) := by decide +kernel
theorem d5_52 : decode prog_23_method_3_code 52 = .ok (.istore_n 2, 1) := by decide +kernel
theorem d5_53 : decode prog_23_method_3_code 53 = .ok (.iload_n 2, 1) := by decide +kernel
theorem d5_54 : decode prog_23_method_3_code 54 = .ok (.aload_n 0, 1) := by decide +kernel
theorem d5_55 : decode prog_23_method_3_code 55 = .ok (.getfield 16, 3) := by decide +kernel
theorem d5_58 : decode prog_23_method_3_code 58 = .ok (.arraylength, 1) := by decide +kernel
theorem d5_59 : decode prog_23_method_3_code 59 = .ok (.if_icmp .ge 18, 3) := by decide +kernel
theorem d5_62 : decode prog_23_method_3_code 62 = .ok (.aload_n 0, 1) := by decide +kernel
theorem d5_63 : decode prog_23_method_3_code 63 = .ok (.getfield 16, 3) := by decide +kernel
theorem d5_66 : decode prog_23_method_3_code 66 = .ok (.iload_n 2, 1) := by decide +kernel
theorem d5_67 : decode prog_23_method_3_code 67 = .ok (.baload, 1) := by decide +kernel
theorem d5_68 : decode prog_23_method_3_code 68 = .ok (.bipush 125, 2) := by decide +kernel
theorem d5_70 : decode prog_23_method_3_code 70 = .ok (.if_icmp .eq 7, 3) := by decide +kernel
theorem d5_73 : decode prog_23_method_3_code 73 = .ok (.iconst 1, 1) := by decide +kernel
theorem d5_74 : decode prog_23_method_3_code 74 = .ok (.goto 4, 3) := by decide +kernel
theorem d5_77 : decode prog_23_method_3_code 77 = .ok (.iconst 0, 1) := by decide +kernel
theorem d5_78 : decode prog_23_method_3_code 78 = .ok (.istore_n 1, 1) := by decide +kernel
theorem d5_79 : decode prog_23_method_3_code 79 = .ok (.goto 84, 3) := by decide +kernel
theorem d5_82 : decode prog_23_method_3_code 82 = .ok (.aload_n 0, 1) := by decide +kernel
theorem d5_83 : decode prog_23_method_3_code 83 = .ok (.getfield 12, 3) := by decide +kernel
theorem d5_86 : decode prog_23_method_3_code 86 = .ok (.iconst (-1), 1) := by decide +kernel
theorem d5_87 : decode prog_23_method_3_code 87 = .ok (.if_icmp .eq 76, 3) := by decide +kernel
theorem d5_90 : decode prog_23_method_3_code 90 = .ok (.aload_n 0, 1) := by decide +kernel
theorem d5_91 : decode prog_23_method_3_code 91 = .ok (.aload_n 0, 1) := by decide +kernel
theorem d5_92 : decode prog_23_method_3_code 92 = .ok (.getfield 31, 3) := by decide +kernel
theorem d5_95 : decode prog_23_method_3_code 95 = .ok (.invokevirtual 27, 3) := by decide +kernel
theorem d5_98 : decode prog_23_method_3_code 98 = .ok (.istore_n 2, 1) := by decide +kernel
theorem d5_99 : decode prog_23_method_3_code 99 = .ok (.iload_n 2, 1) := by decide +kernel
theorem d5_100 : decode prog_23_method_3_code 100 = .ok (.aload_n 0, 1) := by decide +kernel
theorem d5_101 : decode prog_23_method_3_code 101 = .ok (.getfield 16, 3) := by decide +kernel
theorem d5_104 : decode prog_23_method_3_code 104 = .ok (.arraylength, 1) := by decide +kernel
theorem d5_105 : decode prog_23_method_3_code 105 = .ok (.if_icmp .ge 27, 3) := by decide +kernel
theorem d5_108 : decode prog_23_method_3_code 108 = .ok (.aload_n 0, 1) := by decide +kernel
theorem d5_109 : decode prog_23_method_3_code 109 = .ok (.getfield 16, 3) := by decide +kernel
theorem d5_112 : decode prog_23_method_3_code 112 = .ok (.iload_n 2, 1) := by decide +kernel
theorem d5_113 : decode prog_23_method_3_code 113 = .ok (.baload, 1) := by decide +kernel
theorem d5_114 : decode prog_23_method_3_code 114 = .ok (.bipush 44, 2) := by decide +kernel
theorem d5_116 : decode prog_23_method_3_code 116 = .ok (.if_icmp .ne 16, 3) := by decide +kernel
theorem d5_119 : decode prog_23_method_3_code 119 = .ok (.aload_n 0, 1) := by decide +kernel
theorem d5_120 : decode prog_23_method_3_code 120 = .ok (.iload_n 2, 1) := by decide +kernel
theorem d5_121 : decode prog_23_method_3_code 121 = .ok (.iconst 1, 1) := by decide +kernel
theorem d5_122 : decode prog_23_method_3_code 122 = .ok (.iadd, 1) := by decide +kernel
theorem d5_123 : decode prog_23_method_3_code 123 = .ok (.invokevirtual 27, 3) := by decide +kernel
theorem d5_126 : decode prog_23_method_3_code 126 = .ok (.istore_n 2, 1) := by decide +kernel
theorem d5_127 : decode prog_23_method_3_code 127 = .ok (.iconst 1, 1) := by decide +kernel
theorem d5_128 : decode prog_23_method_3_code 128 = .ok (.istore_n 1, 1) := by decide +kernel
theorem d5_129 : decode prog_23_method_3_code 129 = .ok (.goto 34, 3) := by decide +kernel
theorem d5_132 : decode prog_23_method_3_code 132 = .ok (.iload_n 2, 1) := by decide +kernel
theorem d5_133 : decode prog_23_method_3_code 133 = .ok (.aload_n 0, 1) := by decide +kernel
theorem d5_134 : decode prog_23_method_3_code 134 = .ok (.getfield 16, 3) := by decide +kernel
theorem d5_137 : decode prog_23_method_3_code 137 = .ok (.arraylength, 1) := by decide +kernel
theorem d5_138 : decode prog_23_method_3_code 138 = .ok (.if_icmp .ge 14, 3) := by decide +kernel
theorem d5_141 : decode prog_23_method_3_code 141 = .ok (.aload_n 0, 1) := by decide +kernel
theorem d5_142 : decode prog_23_method_3_code 142 = .ok (.getfield 16, 3) := by decide +kernel
theorem d5_145 : decode prog_23_method_3_code 145 = .ok (.iload_n 2, 1) := by decide +kernel
theorem d5_146 : decode prog_23_method_3_code 146 = .ok (.baload, 1) := by decide +kernel
theorem d5_147 : decode prog_23_method_3_code 147 = .ok (.bipush 125, 2) := by decide +kernel
theorem d5_149 : decode prog_23_method_3_code 149 = .ok (.if_icmp .eq 14, 3) := by decide +kernel
theorem d5_152 : decode prog_23_method_3_code 152 = .ok (.new 34, 3) := by decide +kernel
theorem d5_155 : decode prog_23_method_3_code 155 = .ok (.dup, 1) := by decide +kernel
theorem d5_156 : decode prog_23_method_3_code 156 = .ok (.ldc 36, 2) := by decide +kernel
theorem d5_158 : decode prog_23_method_3_code 158 = .ok (.iload_n 2, 1) := by decide +kernel
theorem d5_159 : decode prog_23_method_3_code 159 = .ok (.invokespecial 38, 3) := by decide +kernel
theorem d5_162 : decode prog_23_method_3_code 162 = .ok (.athrow, 1) := by decide +kernel
theorem d5_163 : decode prog_23_method_3_code 163 = .ok (.aload_n 0, 1) := by decide +kernel
theorem d5_164 : decode prog_23_method_3_code 164 = .ok (.iconst (-1), 1) := by decide +kernel
theorem d5_165 : decode prog_23_method_3_code 165 = .ok (.putfield 12, 3) := by decide +kernel
theorem d5_168 : decode prog_23_method_3_code 168 = .ok (.iload_n 1, 1) := by decide +kernel
theorem d5_169 : decode prog_23_method_3_code 169 = .ok (.ifCond .eq 80, 3) := by decide +kernel
theorem d5_172 : decode prog_23_method_3_code 172 = .ok (.aload_n 0, 1) := by decide +kernel
theorem d5_173 : decode prog_23_method_3_code 173 = .ok (.iload_n 2, 1) := by decide +kernel
theorem d5_174 : decode prog_23_method_3_code 174 = .ok (.putfield 12, 3) := by decide +kernel
theorem d5_177 : decode prog_23_method_3_code 177 = .ok (.aload_n 0, 1) := by decide +kernel
theorem d5_178 : decode prog_23_method_3_code 178 = .ok (.aload_n 0, 1) := by decide +kernel
theorem d5_179 : decode prog_23_method_3_code 179 = .ok (.iload_n 2, 1) := by decide +kernel
theorem d5_180 : decode prog_23_method_3_code 180 = .ok (.invokevirtual 41, 3) := by decide +kernel
theorem d5_183 : decode prog_23_method_3_code 183 = .ok (.putfield 44, 3) := by decide +kernel
theorem d5_186 : decode prog_23_method_3_code 186 = .ok (.aload_n 0, 1) := by decide +kernel
theorem d5_187 : decode prog_23_method_3_code 187 = .ok (.aload_n 0, 1) := by decide +kernel
theorem d5_188 : decode prog_23_method_3_code 188 = .ok (.getfield 44, 3) := by decide +kernel
theorem d5_191 : decode prog_23_method_3_code 191 = .ok (.invokevirtual 27, 3) := by decide +kernel
theorem d5_194 : decode prog_23_method_3_code 194 = .ok (.istore_n 3, 1) := by decide +kernel
theorem d5_195 : decode prog_23_method_3_code 195 = .ok (.iload_n 3, 1) := by decide +kernel
theorem d5_196 : decode prog_23_method_3_code 196 = .ok (.aload_n 0, 1) := by decide +kernel
theorem d5_197 : decode prog_23_method_3_code 197 = .ok (.getfield 16, 3) := by decide +kernel
theorem d5_200 : decode prog_23_method_3_code 200 = .ok (.arraylength, 1) := by decide +kernel
theorem d5_201 : decode prog_23_method_3_code 201 = .ok (.if_icmp .ge 14, 3) := by decide +kernel
theorem d5_204 : decode prog_23_method_3_code 204 = .ok (.aload_n 0, 1) := by decide +kernel
theorem d5_205 : decode prog_23_method_3_code 205 = .ok (.getfield 16, 3) := by decide +kernel
theorem d5_208 : decode prog_23_method_3_code 208 = .ok (.iload_n 3, 1) := by decide +kernel
theorem d5_209 : decode prog_23_method_3_code 209 = .ok (.baload, 1) := by decide +kernel
theorem d5_210 : decode prog_23_method_3_code 210 = .ok (.bipush 58, 2) := by decide +kernel
theorem d5_212 : decode prog_23_method_3_code 212 = .ok (.if_icmp .eq 14, 3) := by decide +kernel
theorem d5_215 : decode prog_23_method_3_code 215 = .ok (.new 34, 3) := by decide +kernel
theorem d5_218 : decode prog_23_method_3_code 218 = .ok (.dup, 1) := by decide +kernel
theorem d5_219 : decode prog_23_method_3_code 219 = .ok (.ldc 47, 2) := by decide +kernel
theorem d5_221 : decode prog_23_method_3_code 221 = .ok (.iload_n 3, 1) := by decide +kernel
theorem d5_222 : decode prog_23_method_3_code 222 = .ok (.invokespecial 38, 3) := by decide +kernel
theorem d5_225 : decode prog_23_method_3_code 225 = .ok (.athrow, 1) := by decide +kernel
theorem d5_226 : decode prog_23_method_3_code 226 = .ok (.aload_n 0, 1) := by decide +kernel
theorem d5_227 : decode prog_23_method_3_code 227 = .ok (.aload_n 0, 1) := by decide +kernel
theorem d5_228 : decode prog_23_method_3_code 228 = .ok (.iload_n 3, 1) := by decide +kernel
theorem d5_229 : decode prog_23_method_3_code 229 = .ok (.iconst 1, 1) := by decide +kernel
theorem d5_230 : decode prog_23_method_3_code 230 = .ok (.iadd, 1) := by decide +kernel
theorem d5_231 : decode prog_23_method_3_code 231 = .ok (.invokevirtual 27, 3) := by decide +kernel
theorem d5_234 : decode prog_23_method_3_code 234 = .ok (.putfield 49, 3) := by decide +kernel
theorem d5_237 : decode prog_23_method_3_code 237 = .ok (.aload_n 0, 1) := by decide +kernel
theorem d5_238 : decode prog_23_method_3_code 238 = .ok (.aload_n 0, 1) := by decide +kernel
theorem d5_239 : decode prog_23_method_3_code 239 = .ok (.aload_n 0, 1) := by decide +kernel
theorem d5_240 : decode prog_23_method_3_code 240 = .ok (.getfield 49, 3) := by decide +kernel
theorem d5_243 : decode prog_23_method_3_code 243 = .ok (.invokevirtual 52, 3) := by decide +kernel
theorem d5_246 : decode prog_23_method_3_code 246 = .ok (.putfield 31, 3) := by decide +kernel
theorem d5_249 : decode prog_23_method_3_code 249 = .ok (.iload_n 1, 1) := by decide +kernel
theorem d5_250 : decode prog_23_method_3_code 250 = .ok (.ireturn, 1) := by decide +kernel
theorem pn_5 : plainFor (⟨"com/example/one_lookup/onelookup/json/JsonMembers", "next", "()Z"⟩ : MethodName) = true := by first | exact plainFor_of_name (by first | (simp [plainName, overriddenIn]; done) | decide +kernel) | decide +kernel
theorem ef_5 (m : MethodId) (a : Addr) : entryFrame m #[(.ref a)] 4 = (mkF m 0 #[.val (.ref a), .unset, .unset, .unset] []) := by first | (simp [entryFrame, mkF, argsToLocals, Value.category]; done) | rfl
theorem own_sp : FSp 32 = 1 ∧ FSp 9 = 1 ∧ FSp 10 = 1 ∧ FSp 13 = 1 := by decide
theorem own_vsp {f : Nat → Int32} {i en : Nat} (h : VAL f 19 i en) : FSp (f i) = 0 := by
  have key : ∀ x : Int32, ¬ x = 32 → ¬ x = 9 → ¬ x = 10 → ¬ x = 13 → FSp x = 0 := fun x h1 h2 h3 h4 => by unfold FSp; rw [if_neg h1, if_neg h2, if_neg h3, if_neg h4]
  have en0 : ∀ x : Int32, FEn x = 0 → FSp x = 0 := fun x h => by
    unfold FEn at h
    (repeat' split at h) <;> first | assumption | (exact absurd h (by decide))
  rcases h with ⟨k, h, -⟩ | ⟨-, ⟨h, -⟩ | ⟨h, -⟩, -⟩ | ⟨h1, -, -, -, -, h6, -⟩
  · rw [h.2.2.1]; decide
  · rw [h]; decide
  · rw [h]; decide
  · exact en0 _ (h6 i (Nat.le_refl _) h1)
theorem own_v19 {f : Nat → Int32} {i en : Nat} (h : VAL f 19 i en) : i < 19 ∧ i < en ∧ en ≤ 19 := by
  rcases h with ⟨k, h, rfl⟩ | ⟨h, -, rfl⟩ | ⟨h, h', -⟩
  · have := h.1; have := h.2.1; omega
  · omega
  · omega
set_option maxRecDepth 65536 in
set_option maxHeartbeats 40000000 in
theorem nx1 (l : Launch) (Z : State) (a0 : Array Value) (hw : ∀ d ∈ tables_1, d.before a0 Z = true) (a t : Addr) (f : Nat → Int32) (r4 r5 r6 : Int32) (vs en : Nat) (h0 : Heap) (n0 : Nat) (ge_a : n0 ≤ a) (ne : a ≠ t) (h0' : f 0 = 123) (hS : STR f 19 1 3) (hc : f 4 = 58) (hvs : 5 ≤ vs) (hsp : ∀ k, k < vs → 5 ≤ k → ¬ FSp (f k) = 0) (hV : VAL f 19 vs en) (P : JM Z h0 a (.int (-1 : Int32)) (.ref t) (.int (0 : Int32)) (.int (0 : Int32)) (.int r4) (.int r5) (.int r6)) (A : AI Z h0 t .byte 19 f) : Con l Z (⟨"com/example/one_lookup/onelookup/json/JsonMembers", "next", "()Z"⟩ : MethodName) prog_23_method_3_code 4 (some .boolean) ({ frames := 3, cells := 0, slots := 0, locals := 42 } : Room) 0 0 [] #[(.ref a)] h0 (fun v h L => v = some (.int 1) ∧ Fr n0 L ∧ Keep h0 h [a] ∧ JM Z h a (.int (Int32.ofNat 1)) (.ref t) (.int 0) (.int 1) (.int 4) (.int (Int32.ofNat vs)) (.int (Int32.ofNat en))) := by
  refine Con.of pn_5 ?_
  intro p e s m below meth c T C hZ hml hown hret hnm hlk X e0
  rw [ef_5]
  have N0 := Fr.nil n0
  have hv9 := own_v19 hV
  refine o_iconst C X d5_0 1 rfl (0 : Int32) (by decide) ?_
  refine o_istoreN C X d5_1 2 rfl #[.val (.ref a), .val (.int (0 : Int32)), .unset, .unset] rfl ?_
  refine o_iconst C X d5_2 3 rfl (0 : Int32) (by decide) ?_
  refine o_istoreN C X d5_3 4 rfl #[.val (.ref a), .val (.int (0 : Int32)), .val (.int (0 : Int32)), .unset] rfl ?_
  refine o_aloadN C X d5_4 5 rfl rfl rfl ?_
  refine o_getF C X hZ hown (hw _ (List.mem_of_getElem? (i := 29) rfl)) Via.refl e0 P.2.2.2.2.1 d5_5 8 rfl ?_
  intro T X e0
  refine o_ifN C X d5_8 11 rfl ((if0 _ _).trans (teq (rfl : (0 : Int32) = (0 : Int32))).2) ?_
  refine o_aloadN C X d5_11 12 rfl rfl rfl ?_
  refine o_iconst C X d5_12 13 rfl (1 : Int32) (by decide) ?_
  refine o_putF C X hZ hown (hw _ (List.mem_of_getElem? (i := 29) rfl)) Via.refl e0 P.2.2.2.2.1 P.1 (Or.inl (hw _ (List.mem_of_getElem? (i := 30) rfl))) (hw _ (List.mem_of_getElem? (i := 7) rfl)) (ty := .boolean) (by decide) (by decide) (by decide) d5_13 16 rfl N0 ge_a ?_
  intro T h_1 locs_1 X e_1 W_1 N0
  have Pa_1 := P.wr3 hw W_1
  have At_1 := A.other W_1 (Ne.symm ne)
  have K_1 := (Keep.refl h0 [a]).wr W_1 (Or.inl (by simp))
  refine o_aloadN C X d5_16 17 rfl rfl rfl ?_
  refine o_aloadN C X d5_17 18 rfl rfl rfl ?_
  refine o_getF C X hZ hown (hw _ (List.mem_of_getElem? (i := 22) rfl)) Via.refl e_1 Pa_1.2.2.2.1 d5_18 21 rfl ?_
  intro T X e_1
  refine o_callPrP C X hZ (by rw [hml]; rfl) (own := "com/example/one_lookup/onelookup/json/JsonMembers") (y := (⟨"com/example/one_lookup/onelookup/json/JsonMembers", "space", "(I)I"⟩ : MethodName)) (y' := (⟨"com/example/one_lookup/onelookup/json/JsonMembers", "next", "()Z"⟩ : MethodName)) (rf := 1) (rl := 12) hown (hw _ (List.mem_of_getElem? (i := 31) rfl)) (hw _ (List.mem_of_getElem? (i := 32) rfl)) (hw _ (List.mem_of_getElem? (i := 33) rfl)) (hw _ (List.mem_of_getElem? (i := 27) rfl)) rfl (hw _ (List.mem_of_getElem? (i := 8) rfl)) (hw _ (List.mem_of_getElem? (i := 34) rfl)) (by decide) (asL := [(.int (0 : Int32))]) (a := a) (rspace l Z a0 hw a t f (.int (-1 : Int32)) (.int (0 : Int32)) (.int (1 : Int32)) (.int r4) (.int r5) (.int r6) (0 : Int32) h_1 (0) (0) (by decide) (by omega) (by omega) (fun k h1 h2 => by omega) (fun _ => by rw [h0']; decide) Pa_1 At_1) e_1 Pa_1.1 pd_2 rfl rfl 0 (Nat.le_of_eq rfl) (by decide) (by decide) (by decide) (by decide) d5_21 24 rfl ?_
  intro T X e_1
  refine o_istoreN C X d5_24 25 rfl #[.val (.ref a), .val (.int (0 : Int32)), .val (.int (Int32.ofNat (0))), .unset] rfl ?_
  refine o_iloadN C X d5_25 26 rfl rfl ?_
  refine o_aloadN C X d5_26 27 rfl rfl rfl ?_
  refine o_getF C X hZ hown (hw _ (List.mem_of_getElem? (i := 20) rfl)) Via.refl e_1 Pa_1.2.2.1 d5_27 30 rfl ?_
  intro T X e_1
  refine o_arraylength C X hZ e_1 At_1 (19 : Int32) rfl d5_30 31 rfl ?_
  refine o_icmpN C X d5_31 34 rfl (tlt (by decide : (Int32.ofNat (0)) < (19 : Int32))).2.1 ?_
  refine o_aloadN C X d5_34 35 rfl rfl rfl ?_
  refine o_getF C X hZ hown (hw _ (List.mem_of_getElem? (i := 20) rfl)) Via.refl e_1 Pa_1.2.2.1 d5_35 38 rfl ?_
  intro T X e_1
  refine o_iloadN C X d5_38 39 rfl rfl ?_
  refine o_baload C X hZ e_1 At_1 (0) (by decide) (by decide) d5_39 40 rfl ?_
  refine o_bipush C X d5_40 42 rfl (123 : Int32) (by decide) ?_
  refine o_icmpN C X d5_42 45 rfl (teq h0').2 ?_
  refine o_aloadN C X d5_45 46 rfl rfl rfl ?_
  refine o_iloadN C X d5_46 47 rfl rfl ?_
  refine o_iconst C X d5_47 48 rfl (1 : Int32) (by decide) ?_
  refine o_iadd C X d5_48 49 rfl ?_
  refine o_callPrP C X hZ (by rw [hml]; rfl) (own := "com/example/one_lookup/onelookup/json/JsonMembers") (y := (⟨"com/example/one_lookup/onelookup/json/JsonMembers", "space", "(I)I"⟩ : MethodName)) (y' := (⟨"com/example/one_lookup/onelookup/json/JsonMembers", "next", "()Z"⟩ : MethodName)) (rf := 1) (rl := 12) hown (hw _ (List.mem_of_getElem? (i := 31) rfl)) (hw _ (List.mem_of_getElem? (i := 32) rfl)) (hw _ (List.mem_of_getElem? (i := 33) rfl)) (hw _ (List.mem_of_getElem? (i := 27) rfl)) rfl (hw _ (List.mem_of_getElem? (i := 8) rfl)) (hw _ (List.mem_of_getElem? (i := 34) rfl)) (by decide) (asL := [(.int ((Int32.ofNat (0)) + (1 : Int32)))]) (a := a) (rspace l Z a0 hw a t f (.int (-1 : Int32)) (.int (0 : Int32)) (.int (1 : Int32)) (.int r4) (.int r5) (.int r6) ((Int32.ofNat (0)) + (1 : Int32)) h_1 (1) (1) (by decide) (by omega) (by omega) (fun k h1 h2 => by omega) (fun _ => by rw [hS.2.2.1]; decide) Pa_1 At_1) e_1 Pa_1.1 pd_2 rfl rfl 0 (Nat.le_of_eq rfl) (by decide) (by decide) (by decide) (by decide) d5_49 52 rfl ?_
  intro T X e_1
  refine o_istoreN C X d5_52 53 rfl #[.val (.ref a), .val (.int (0 : Int32)), .val (.int (Int32.ofNat (1))), .unset] rfl ?_
  refine o_iloadN C X d5_53 54 rfl rfl ?_
  refine o_aloadN C X d5_54 55 rfl rfl rfl ?_
  refine o_getF C X hZ hown (hw _ (List.mem_of_getElem? (i := 20) rfl)) Via.refl e_1 Pa_1.2.2.1 d5_55 58 rfl ?_
  intro T X e_1
  refine o_arraylength C X hZ e_1 At_1 (19 : Int32) rfl d5_58 59 rfl ?_
  refine o_icmpN C X d5_59 62 rfl (tlt (by decide : (Int32.ofNat (1)) < (19 : Int32))).2.1 ?_
  refine o_aloadN C X d5_62 63 rfl rfl rfl ?_
  refine o_getF C X hZ hown (hw _ (List.mem_of_getElem? (i := 20) rfl)) Via.refl e_1 Pa_1.2.2.1 d5_63 66 rfl ?_
  intro T X e_1
  refine o_iloadN C X d5_66 67 rfl rfl ?_
  refine o_baload C X hZ e_1 At_1 (1) (by decide) (by decide) d5_67 68 rfl ?_
  refine o_bipush C X d5_68 70 rfl (125 : Int32) (by decide) ?_
  refine o_icmpN C X d5_70 73 rfl (feq (by rw [hS.2.2.1]; decide : ¬ ((f 1) = (125 : Int32)))).1 ?_
  refine o_iconst C X d5_73 74 rfl (1 : Int32) (by decide) ?_
  refine o_goto C X d5_74 78 (by decide) (by decide) ?_
  refine o_istoreN C X d5_78 79 rfl #[.val (.ref a), .val (.int (1 : Int32)), .val (.int (Int32.ofNat (1))), .unset] rfl ?_
  refine o_goto C X d5_79 163 (by decide) (by decide) ?_
  refine o_aloadN C X d5_163 164 rfl rfl rfl ?_
  refine o_iconst C X d5_164 165 rfl (-1 : Int32) (by decide) ?_
  refine o_putF C X hZ hown (hw _ (List.mem_of_getElem? (i := 18) rfl)) Via.refl e_1 Pa_1.2.1 Pa_1.1 (Or.inl (hw _ (List.mem_of_getElem? (i := 19) rfl))) (hw _ (List.mem_of_getElem? (i := 7) rfl)) (ty := .int) (by decide) rfl rfl d5_165 168 rfl N0 ge_a ?_
  intro T h_2 locs_2 X e_2 W_2 N0
  have Pa_2 := Pa_1.wr0 hw W_2
  have At_2 := At_1.other W_2 (Ne.symm ne)
  have K_2 := K_1.wr W_2 (Or.inl (by simp))
  refine o_iloadN C X d5_168 169 rfl rfl ?_
  refine o_ifN C X d5_169 172 rfl ((if0 _ _).trans (feq (by decide : ¬ ((1 : Int32) = (0 : Int32)))).1) ?_
  refine o_aloadN C X d5_172 173 rfl rfl rfl ?_
  refine o_iloadN C X d5_173 174 rfl rfl ?_
  refine o_putF C X hZ hown (hw _ (List.mem_of_getElem? (i := 18) rfl)) Via.refl e_2 Pa_2.2.1 Pa_2.1 (Or.inl (hw _ (List.mem_of_getElem? (i := 19) rfl))) (hw _ (List.mem_of_getElem? (i := 7) rfl)) (ty := .int) (by decide) rfl rfl d5_174 177 rfl N0 ge_a ?_
  intro T h_3 locs_3 X e_3 W_3 N0
  have Pa_3 := Pa_2.wr0 hw W_3
  have At_3 := At_2.other W_3 (Ne.symm ne)
  have K_3 := K_2.wr W_3 (Or.inl (by simp))
  refine o_aloadN C X d5_177 178 rfl rfl rfl ?_
  refine o_aloadN C X d5_178 179 rfl rfl rfl ?_
  refine o_iloadN C X d5_179 180 rfl rfl ?_
  refine o_callPrP C X hZ (by rw [hml]; rfl) (own := "com/example/one_lookup/onelookup/json/JsonMembers") (y := (⟨"com/example/one_lookup/onelookup/json/JsonMembers", "string", "(I)I"⟩ : MethodName)) (y' := (⟨"com/example/one_lookup/onelookup/json/JsonMembers", "next", "()Z"⟩ : MethodName)) (rf := 1) (rl := 12) hown (hw _ (List.mem_of_getElem? (i := 38) rfl)) (hw _ (List.mem_of_getElem? (i := 39) rfl)) (hw _ (List.mem_of_getElem? (i := 40) rfl)) (hw _ (List.mem_of_getElem? (i := 27) rfl)) rfl (hw _ (List.mem_of_getElem? (i := 8) rfl)) (hw _ (List.mem_of_getElem? (i := 41) rfl)) (by decide) (asL := [(.int (Int32.ofNat (1)))]) (a := a) (rstring l Z a0 hw a t f (.int (Int32.ofNat (1))) (.int (0 : Int32)) (.int (1 : Int32)) (.int r4) (.int r5) (.int r6) (Int32.ofNat (1)) h_3 1 3 (by decide) hS Pa_3 At_3) e_3 Pa_3.1 pd_2 rfl rfl 1 (Nat.le_of_eq rfl) (by decide) (by decide) (by decide) (by decide) d5_180 183 rfl ?_
  intro T X e_3
  rw [show Int32.ofNat (3 + 1) = (4 : Int32) from by decide]
  refine o_putF C X hZ hown (hw _ (List.mem_of_getElem? (i := 46) rfl)) Via.refl e_3 Pa_3.2.2.2.2.2.1 Pa_3.1 (Or.inl (hw _ (List.mem_of_getElem? (i := 47) rfl))) (hw _ (List.mem_of_getElem? (i := 7) rfl)) (ty := .int) (by decide) rfl rfl d5_183 186 rfl N0 ge_a ?_
  intro T h_4 locs_4 X e_4 W_4 N0
  have Pa_4 := Pa_3.wr4 hw W_4
  have At_4 := At_3.other W_4 (Ne.symm ne)
  have K_4 := K_3.wr W_4 (Or.inl (by simp))
  refine o_aloadN C X d5_186 187 rfl rfl rfl ?_
  refine o_aloadN C X d5_187 188 rfl rfl rfl ?_
  refine o_getF C X hZ hown (hw _ (List.mem_of_getElem? (i := 46) rfl)) Via.refl e_4 Pa_4.2.2.2.2.2.1 d5_188 191 rfl ?_
  intro T X e_4
  refine o_callPrP C X hZ (by rw [hml]; rfl) (own := "com/example/one_lookup/onelookup/json/JsonMembers") (y := (⟨"com/example/one_lookup/onelookup/json/JsonMembers", "space", "(I)I"⟩ : MethodName)) (y' := (⟨"com/example/one_lookup/onelookup/json/JsonMembers", "next", "()Z"⟩ : MethodName)) (rf := 1) (rl := 12) hown (hw _ (List.mem_of_getElem? (i := 31) rfl)) (hw _ (List.mem_of_getElem? (i := 32) rfl)) (hw _ (List.mem_of_getElem? (i := 33) rfl)) (hw _ (List.mem_of_getElem? (i := 27) rfl)) rfl (hw _ (List.mem_of_getElem? (i := 8) rfl)) (hw _ (List.mem_of_getElem? (i := 34) rfl)) (by decide) (asL := [(.int (4 : Int32))]) (a := a) (rspace l Z a0 hw a t f (.int (Int32.ofNat (1))) (.int (0 : Int32)) (.int (1 : Int32)) (.int (4 : Int32)) (.int r5) (.int r6) (4 : Int32) h_4 (4) (4) (by decide) (by omega) (by omega) (fun k h1 h2 => by omega) (fun _ => by rw [hc]; decide) Pa_4 At_4) e_4 Pa_4.1 pd_2 rfl rfl 0 (Nat.le_of_eq rfl) (by decide) (by decide) (by decide) (by decide) d5_191 194 rfl ?_
  intro T X e_4
  refine o_istoreN C X d5_194 195 rfl #[.val (.ref a), .val (.int (1 : Int32)), .val (.int (Int32.ofNat (1))), .val (.int (Int32.ofNat (4)))] rfl ?_
  refine o_iloadN C X d5_195 196 rfl rfl ?_
  refine o_aloadN C X d5_196 197 rfl rfl rfl ?_
  refine o_getF C X hZ hown (hw _ (List.mem_of_getElem? (i := 20) rfl)) Via.refl e_4 Pa_4.2.2.1 d5_197 200 rfl ?_
  intro T X e_4
  refine o_arraylength C X hZ e_4 At_4 (19 : Int32) rfl d5_200 201 rfl ?_
  refine o_icmpN C X d5_201 204 rfl (tlt (by decide : (Int32.ofNat (4)) < (19 : Int32))).2.1 ?_
  refine o_aloadN C X d5_204 205 rfl rfl rfl ?_
  refine o_getF C X hZ hown (hw _ (List.mem_of_getElem? (i := 20) rfl)) Via.refl e_4 Pa_4.2.2.1 d5_205 208 rfl ?_
  intro T X e_4
  refine o_iloadN C X d5_208 209 rfl rfl ?_
  refine o_baload C X hZ e_4 At_4 (4) (by decide) (by decide) d5_209 210 rfl ?_
  refine o_bipush C X d5_210 212 rfl (58 : Int32) (by decide) ?_
  refine o_icmpY C X d5_212 226 (by decide) (by decide) (teq hc).1 ?_
  refine o_aloadN C X d5_226 227 rfl rfl rfl ?_
  refine o_aloadN C X d5_227 228 rfl rfl rfl ?_
  refine o_iloadN C X d5_228 229 rfl rfl ?_
  refine o_iconst C X d5_229 230 rfl (1 : Int32) (by decide) ?_
  refine o_iadd C X d5_230 231 rfl ?_
  refine o_callPrP C X hZ (by rw [hml]; rfl) (own := "com/example/one_lookup/onelookup/json/JsonMembers") (y := (⟨"com/example/one_lookup/onelookup/json/JsonMembers", "space", "(I)I"⟩ : MethodName)) (y' := (⟨"com/example/one_lookup/onelookup/json/JsonMembers", "next", "()Z"⟩ : MethodName)) (rf := 1) (rl := 12) hown (hw _ (List.mem_of_getElem? (i := 31) rfl)) (hw _ (List.mem_of_getElem? (i := 32) rfl)) (hw _ (List.mem_of_getElem? (i := 33) rfl)) (hw _ (List.mem_of_getElem? (i := 27) rfl)) rfl (hw _ (List.mem_of_getElem? (i := 8) rfl)) (hw _ (List.mem_of_getElem? (i := 34) rfl)) (by decide) (asL := [(.int ((Int32.ofNat (4)) + (1 : Int32)))]) (a := a) (rspace l Z a0 hw a t f (.int (Int32.ofNat (1))) (.int (0 : Int32)) (.int (1 : Int32)) (.int (4 : Int32)) (.int r5) (.int r6) ((Int32.ofNat (4)) + (1 : Int32)) h_4 (5) (vs) (by decide) (by omega) (by omega) hsp (fun _ => own_vsp hV) Pa_4 At_4) e_4 Pa_4.1 pd_2 rfl rfl 1 (Nat.le_of_eq rfl) (by decide) (by decide) (by decide) (by decide) d5_231 234 rfl ?_
  intro T X e_4
  refine o_putF C X hZ hown (hw _ (List.mem_of_getElem? (i := 48) rfl)) Via.refl e_4 Pa_4.2.2.2.2.2.2.1 Pa_4.1 (Or.inl (hw _ (List.mem_of_getElem? (i := 49) rfl))) (hw _ (List.mem_of_getElem? (i := 7) rfl)) (ty := .int) (by decide) rfl rfl d5_234 237 rfl N0 ge_a ?_
  intro T h_5 locs_5 X e_5 W_5 N0
  have Pa_5 := Pa_4.wr5 hw W_5
  have At_5 := At_4.other W_5 (Ne.symm ne)
  have K_5 := K_4.wr W_5 (Or.inl (by simp))
  refine o_aloadN C X d5_237 238 rfl rfl rfl ?_
  refine o_aloadN C X d5_238 239 rfl rfl rfl ?_
  refine o_aloadN C X d5_239 240 rfl rfl rfl ?_
  refine o_getF C X hZ hown (hw _ (List.mem_of_getElem? (i := 48) rfl)) Via.refl e_5 Pa_5.2.2.2.2.2.2.1 d5_240 243 rfl ?_
  intro T X e_5
  refine o_callPrP C X hZ (by rw [hml]; rfl) (own := "com/example/one_lookup/onelookup/json/JsonMembers") (y := (⟨"com/example/one_lookup/onelookup/json/JsonMembers", "value", "(I)I"⟩ : MethodName)) (y' := (⟨"com/example/one_lookup/onelookup/json/JsonMembers", "next", "()Z"⟩ : MethodName)) (rf := 2) (rl := 26) hown (hw _ (List.mem_of_getElem? (i := 50) rfl)) (hw _ (List.mem_of_getElem? (i := 51) rfl)) (hw _ (List.mem_of_getElem? (i := 52) rfl)) (hw _ (List.mem_of_getElem? (i := 27) rfl)) rfl (hw _ (List.mem_of_getElem? (i := 8) rfl)) (hw _ (List.mem_of_getElem? (i := 53) rfl)) (by decide) (asL := [(.int (Int32.ofNat (vs)))]) (a := a) (rvalue l Z a0 hw a t f (.int (Int32.ofNat (1))) (.int (0 : Int32)) (.int (1 : Int32)) (.int (4 : Int32)) (.int (Int32.ofNat (vs))) (.int r6) (Int32.ofNat (vs)) h_5 vs en (own_to (by omega)) hV Pa_5 At_5) e_5 Pa_5.1 pd_2 rfl rfl 1 (Nat.le_of_eq rfl) (by decide) (by decide) (by decide) (by decide) d5_243 246 rfl ?_
  intro T X e_5
  refine o_putF C X hZ hown (hw _ (List.mem_of_getElem? (i := 54) rfl)) Via.refl e_5 Pa_5.2.2.2.2.2.2.2 Pa_5.1 (Or.inl (hw _ (List.mem_of_getElem? (i := 55) rfl))) (hw _ (List.mem_of_getElem? (i := 7) rfl)) (ty := .int) (by decide) rfl rfl d5_246 249 rfl N0 ge_a ?_
  intro T h_6 locs_6 X e_6 W_6 N0
  have Pa_6 := Pa_5.wr6 hw W_6
  have At_6 := At_5.other W_6 (Ne.symm ne)
  have K_6 := K_5.wr W_6 (Or.inl (by simp))
  refine o_iloadN C X d5_249 250 rfl rfl ?_
  exact o_retN C X hret (by simp) hlk d5_250 (by subst e_6; exact ⟨rfl, N0, K_6, Pa_6⟩) (Nat.le_refl _) (Nat.le_refl _)
set_option maxRecDepth 65536 in
set_option maxHeartbeats 40000000 in
theorem nx2 (l : Launch) (Z : State) (a0 : Array Value) (hw : ∀ d ∈ tables_1, d.before a0 Z = true) (a t : Addr) (f : Nat → Int32) (r4 r5 : Int32) (en0 vs en : Nat) (h0 : Heap) (n0 : Nat) (ge_a : n0 ≤ a) (ne : a ≠ t) (he0 : en0 ≤ 9) (hs0 : ∀ k, k < 9 → en0 ≤ k → ¬ FSp (f k) = 0) (h9 : f 9 = 44) (hS : STR f 19 10 12) (hc : f 13 = 58) (hvs : 14 ≤ vs) (hsp : ∀ k, k < vs → 14 ≤ k → ¬ FSp (f k) = 0) (hV : VAL f 19 vs en) (P : JM Z h0 a (.int (Int32.ofNat 1)) (.ref t) (.int (0 : Int32)) (.int (1 : Int32)) (.int r4) (.int r5) (.int (Int32.ofNat en0))) (A : AI Z h0 t .byte 19 f) : Con l Z (⟨"com/example/one_lookup/onelookup/json/JsonMembers", "next", "()Z"⟩ : MethodName) prog_23_method_3_code 4 (some .boolean) ({ frames := 3, cells := 0, slots := 0, locals := 42 } : Room) 0 0 [] #[(.ref a)] h0 (fun v h L => v = some (.int 1) ∧ Fr n0 L ∧ Keep h0 h [a] ∧ JM Z h a (.int (Int32.ofNat 10)) (.ref t) (.int 0) (.int 1) (.int 13) (.int (Int32.ofNat vs)) (.int (Int32.ofNat en))) := by
  refine Con.of pn_5 ?_
  intro p e s m below meth c T C hZ hml hown hret hnm hlk X e0
  rw [ef_5]
  have N0 := Fr.nil n0
  have hv9 := own_v19 hV
  refine o_iconst C X d5_0 1 rfl (0 : Int32) (by decide) ?_
  refine o_istoreN C X d5_1 2 rfl #[.val (.ref a), .val (.int (0 : Int32)), .unset, .unset] rfl ?_
  refine o_iconst C X d5_2 3 rfl (0 : Int32) (by decide) ?_
  refine o_istoreN C X d5_3 4 rfl #[.val (.ref a), .val (.int (0 : Int32)), .val (.int (0 : Int32)), .unset] rfl ?_
  refine o_aloadN C X d5_4 5 rfl rfl rfl ?_
  refine o_getF C X hZ hown (hw _ (List.mem_of_getElem? (i := 29) rfl)) Via.refl e0 P.2.2.2.2.1 d5_5 8 rfl ?_
  intro T X e0
  refine o_ifY C X d5_8 82 (by decide) (by decide) ((if0 _ _).trans (feq (by decide : ¬ ((1 : Int32) = (0 : Int32)))).2) ?_
  refine o_aloadN C X d5_82 83 rfl rfl rfl ?_
  refine o_getF C X hZ hown (hw _ (List.mem_of_getElem? (i := 18) rfl)) Via.refl e0 P.2.1 d5_83 86 rfl ?_
  intro T X e0
  refine o_iconst C X d5_86 87 rfl (-1 : Int32) (by decide) ?_
  refine o_icmpN C X d5_87 90 rfl (feq (by decide : ¬ ((Int32.ofNat 1) = (-1 : Int32)))).1 ?_
  refine o_aloadN C X d5_90 91 rfl rfl rfl ?_
  refine o_aloadN C X d5_91 92 rfl rfl rfl ?_
  refine o_getF C X hZ hown (hw _ (List.mem_of_getElem? (i := 54) rfl)) Via.refl e0 P.2.2.2.2.2.2.2 d5_92 95 rfl ?_
  intro T X e0
  refine o_callPrP C X hZ (by rw [hml]; rfl) (own := "com/example/one_lookup/onelookup/json/JsonMembers") (y := (⟨"com/example/one_lookup/onelookup/json/JsonMembers", "space", "(I)I"⟩ : MethodName)) (y' := (⟨"com/example/one_lookup/onelookup/json/JsonMembers", "next", "()Z"⟩ : MethodName)) (rf := 1) (rl := 12) hown (hw _ (List.mem_of_getElem? (i := 31) rfl)) (hw _ (List.mem_of_getElem? (i := 32) rfl)) (hw _ (List.mem_of_getElem? (i := 33) rfl)) (hw _ (List.mem_of_getElem? (i := 27) rfl)) rfl (hw _ (List.mem_of_getElem? (i := 8) rfl)) (hw _ (List.mem_of_getElem? (i := 34) rfl)) (by decide) (asL := [(.int (Int32.ofNat en0))]) (a := a) (rspace l Z a0 hw a t f (.int (Int32.ofNat 1)) (.int (0 : Int32)) (.int (1 : Int32)) (.int r4) (.int r5) (.int (Int32.ofNat en0)) (Int32.ofNat en0) h0 (en0) (9) (own_to (by omega)) (by omega) (by omega) hs0 (fun _ => by rw [h9]; decide) P A) e0 P.1 pd_2 rfl rfl 0 (Nat.le_of_eq rfl) (by decide) (by decide) (by decide) (by decide) d5_95 98 rfl ?_
  intro T X e0
  refine o_istoreN C X d5_98 99 rfl #[.val (.ref a), .val (.int (0 : Int32)), .val (.int (Int32.ofNat (9))), .unset] rfl ?_
  refine o_iloadN C X d5_99 100 rfl rfl ?_
  refine o_aloadN C X d5_100 101 rfl rfl rfl ?_
  refine o_getF C X hZ hown (hw _ (List.mem_of_getElem? (i := 20) rfl)) Via.refl e0 P.2.2.1 d5_101 104 rfl ?_
  intro T X e0
  refine o_arraylength C X hZ e0 A (19 : Int32) rfl d5_104 105 rfl ?_
  refine o_icmpN C X d5_105 108 rfl (tlt (by decide : (Int32.ofNat (9)) < (19 : Int32))).2.1 ?_
  refine o_aloadN C X d5_108 109 rfl rfl rfl ?_
  refine o_getF C X hZ hown (hw _ (List.mem_of_getElem? (i := 20) rfl)) Via.refl e0 P.2.2.1 d5_109 112 rfl ?_
  intro T X e0
  refine o_iloadN C X d5_112 113 rfl rfl ?_
  refine o_baload C X hZ e0 A (9) (by decide) (by decide) d5_113 114 rfl ?_
  refine o_bipush C X d5_114 116 rfl (44 : Int32) (by decide) ?_
  refine o_icmpN C X d5_116 119 rfl (teq h9).2 ?_
  refine o_aloadN C X d5_119 120 rfl rfl rfl ?_
  refine o_iloadN C X d5_120 121 rfl rfl ?_
  refine o_iconst C X d5_121 122 rfl (1 : Int32) (by decide) ?_
  refine o_iadd C X d5_122 123 rfl ?_
  refine o_callPrP C X hZ (by rw [hml]; rfl) (own := "com/example/one_lookup/onelookup/json/JsonMembers") (y := (⟨"com/example/one_lookup/onelookup/json/JsonMembers", "space", "(I)I"⟩ : MethodName)) (y' := (⟨"com/example/one_lookup/onelookup/json/JsonMembers", "next", "()Z"⟩ : MethodName)) (rf := 1) (rl := 12) hown (hw _ (List.mem_of_getElem? (i := 31) rfl)) (hw _ (List.mem_of_getElem? (i := 32) rfl)) (hw _ (List.mem_of_getElem? (i := 33) rfl)) (hw _ (List.mem_of_getElem? (i := 27) rfl)) rfl (hw _ (List.mem_of_getElem? (i := 8) rfl)) (hw _ (List.mem_of_getElem? (i := 34) rfl)) (by decide) (asL := [(.int ((Int32.ofNat (9)) + (1 : Int32)))]) (a := a) (rspace l Z a0 hw a t f (.int (Int32.ofNat 1)) (.int (0 : Int32)) (.int (1 : Int32)) (.int r4) (.int r5) (.int (Int32.ofNat en0)) ((Int32.ofNat (9)) + (1 : Int32)) h0 (10) (10) (by decide) (by omega) (by omega) (fun k h1 h2 => by omega) (fun _ => by rw [hS.2.2.1]; decide) P A) e0 P.1 pd_2 rfl rfl 0 (Nat.le_of_eq rfl) (by decide) (by decide) (by decide) (by decide) d5_123 126 rfl ?_
  intro T X e0
  refine o_istoreN C X d5_126 127 rfl #[.val (.ref a), .val (.int (0 : Int32)), .val (.int (Int32.ofNat (10))), .unset] rfl ?_
  refine o_iconst C X d5_127 128 rfl (1 : Int32) (by decide) ?_
  refine o_istoreN C X d5_128 129 rfl #[.val (.ref a), .val (.int (1 : Int32)), .val (.int (Int32.ofNat (10))), .unset] rfl ?_
  refine o_goto C X d5_129 163 (by decide) (by decide) ?_
  refine o_aloadN C X d5_163 164 rfl rfl rfl ?_
  refine o_iconst C X d5_164 165 rfl (-1 : Int32) (by decide) ?_
  refine o_putF C X hZ hown (hw _ (List.mem_of_getElem? (i := 18) rfl)) Via.refl e0 P.2.1 P.1 (Or.inl (hw _ (List.mem_of_getElem? (i := 19) rfl))) (hw _ (List.mem_of_getElem? (i := 7) rfl)) (ty := .int) (by decide) rfl rfl d5_165 168 rfl N0 ge_a ?_
  intro T h_1 locs_1 X e_1 W_1 N0
  have Pa_1 := P.wr0 hw W_1
  have At_1 := A.other W_1 (Ne.symm ne)
  have K_1 := (Keep.refl h0 [a]).wr W_1 (Or.inl (by simp))
  refine o_iloadN C X d5_168 169 rfl rfl ?_
  refine o_ifN C X d5_169 172 rfl ((if0 _ _).trans (feq (by decide : ¬ ((1 : Int32) = (0 : Int32)))).1) ?_
  refine o_aloadN C X d5_172 173 rfl rfl rfl ?_
  refine o_iloadN C X d5_173 174 rfl rfl ?_
  refine o_putF C X hZ hown (hw _ (List.mem_of_getElem? (i := 18) rfl)) Via.refl e_1 Pa_1.2.1 Pa_1.1 (Or.inl (hw _ (List.mem_of_getElem? (i := 19) rfl))) (hw _ (List.mem_of_getElem? (i := 7) rfl)) (ty := .int) (by decide) rfl rfl d5_174 177 rfl N0 ge_a ?_
  intro T h_2 locs_2 X e_2 W_2 N0
  have Pa_2 := Pa_1.wr0 hw W_2
  have At_2 := At_1.other W_2 (Ne.symm ne)
  have K_2 := K_1.wr W_2 (Or.inl (by simp))
  refine o_aloadN C X d5_177 178 rfl rfl rfl ?_
  refine o_aloadN C X d5_178 179 rfl rfl rfl ?_
  refine o_iloadN C X d5_179 180 rfl rfl ?_
  refine o_callPrP C X hZ (by rw [hml]; rfl) (own := "com/example/one_lookup/onelookup/json/JsonMembers") (y := (⟨"com/example/one_lookup/onelookup/json/JsonMembers", "string", "(I)I"⟩ : MethodName)) (y' := (⟨"com/example/one_lookup/onelookup/json/JsonMembers", "next", "()Z"⟩ : MethodName)) (rf := 1) (rl := 12) hown (hw _ (List.mem_of_getElem? (i := 38) rfl)) (hw _ (List.mem_of_getElem? (i := 39) rfl)) (hw _ (List.mem_of_getElem? (i := 40) rfl)) (hw _ (List.mem_of_getElem? (i := 27) rfl)) rfl (hw _ (List.mem_of_getElem? (i := 8) rfl)) (hw _ (List.mem_of_getElem? (i := 41) rfl)) (by decide) (asL := [(.int (Int32.ofNat (10)))]) (a := a) (rstring l Z a0 hw a t f (.int (Int32.ofNat (10))) (.int (0 : Int32)) (.int (1 : Int32)) (.int r4) (.int r5) (.int (Int32.ofNat en0)) (Int32.ofNat (10)) h_2 10 12 (by decide) hS Pa_2 At_2) e_2 Pa_2.1 pd_2 rfl rfl 1 (Nat.le_of_eq rfl) (by decide) (by decide) (by decide) (by decide) d5_180 183 rfl ?_
  intro T X e_2
  rw [show Int32.ofNat (12 + 1) = (13 : Int32) from by decide]
  refine o_putF C X hZ hown (hw _ (List.mem_of_getElem? (i := 46) rfl)) Via.refl e_2 Pa_2.2.2.2.2.2.1 Pa_2.1 (Or.inl (hw _ (List.mem_of_getElem? (i := 47) rfl))) (hw _ (List.mem_of_getElem? (i := 7) rfl)) (ty := .int) (by decide) rfl rfl d5_183 186 rfl N0 ge_a ?_
  intro T h_3 locs_3 X e_3 W_3 N0
  have Pa_3 := Pa_2.wr4 hw W_3
  have At_3 := At_2.other W_3 (Ne.symm ne)
  have K_3 := K_2.wr W_3 (Or.inl (by simp))
  refine o_aloadN C X d5_186 187 rfl rfl rfl ?_
  refine o_aloadN C X d5_187 188 rfl rfl rfl ?_
  refine o_getF C X hZ hown (hw _ (List.mem_of_getElem? (i := 46) rfl)) Via.refl e_3 Pa_3.2.2.2.2.2.1 d5_188 191 rfl ?_
  intro T X e_3
  refine o_callPrP C X hZ (by rw [hml]; rfl) (own := "com/example/one_lookup/onelookup/json/JsonMembers") (y := (⟨"com/example/one_lookup/onelookup/json/JsonMembers", "space", "(I)I"⟩ : MethodName)) (y' := (⟨"com/example/one_lookup/onelookup/json/JsonMembers", "next", "()Z"⟩ : MethodName)) (rf := 1) (rl := 12) hown (hw _ (List.mem_of_getElem? (i := 31) rfl)) (hw _ (List.mem_of_getElem? (i := 32) rfl)) (hw _ (List.mem_of_getElem? (i := 33) rfl)) (hw _ (List.mem_of_getElem? (i := 27) rfl)) rfl (hw _ (List.mem_of_getElem? (i := 8) rfl)) (hw _ (List.mem_of_getElem? (i := 34) rfl)) (by decide) (asL := [(.int (13 : Int32))]) (a := a) (rspace l Z a0 hw a t f (.int (Int32.ofNat (10))) (.int (0 : Int32)) (.int (1 : Int32)) (.int (13 : Int32)) (.int r5) (.int (Int32.ofNat en0)) (13 : Int32) h_3 (13) (13) (by decide) (by omega) (by omega) (fun k h1 h2 => by omega) (fun _ => by rw [hc]; decide) Pa_3 At_3) e_3 Pa_3.1 pd_2 rfl rfl 0 (Nat.le_of_eq rfl) (by decide) (by decide) (by decide) (by decide) d5_191 194 rfl ?_
  intro T X e_3
  refine o_istoreN C X d5_194 195 rfl #[.val (.ref a), .val (.int (1 : Int32)), .val (.int (Int32.ofNat (10))), .val (.int (Int32.ofNat (13)))] rfl ?_
  refine o_iloadN C X d5_195 196 rfl rfl ?_
  refine o_aloadN C X d5_196 197 rfl rfl rfl ?_
  refine o_getF C X hZ hown (hw _ (List.mem_of_getElem? (i := 20) rfl)) Via.refl e_3 Pa_3.2.2.1 d5_197 200 rfl ?_
  intro T X e_3
  refine o_arraylength C X hZ e_3 At_3 (19 : Int32) rfl d5_200 201 rfl ?_
  refine o_icmpN C X d5_201 204 rfl (tlt (by decide : (Int32.ofNat (13)) < (19 : Int32))).2.1 ?_
  refine o_aloadN C X d5_204 205 rfl rfl rfl ?_
  refine o_getF C X hZ hown (hw _ (List.mem_of_getElem? (i := 20) rfl)) Via.refl e_3 Pa_3.2.2.1 d5_205 208 rfl ?_
  intro T X e_3
  refine o_iloadN C X d5_208 209 rfl rfl ?_
  refine o_baload C X hZ e_3 At_3 (13) (by decide) (by decide) d5_209 210 rfl ?_
  refine o_bipush C X d5_210 212 rfl (58 : Int32) (by decide) ?_
  refine o_icmpY C X d5_212 226 (by decide) (by decide) (teq hc).1 ?_
  refine o_aloadN C X d5_226 227 rfl rfl rfl ?_
  refine o_aloadN C X d5_227 228 rfl rfl rfl ?_
  refine o_iloadN C X d5_228 229 rfl rfl ?_
  refine o_iconst C X d5_229 230 rfl (1 : Int32) (by decide) ?_
  refine o_iadd C X d5_230 231 rfl ?_
  refine o_callPrP C X hZ (by rw [hml]; rfl) (own := "com/example/one_lookup/onelookup/json/JsonMembers") (y := (⟨"com/example/one_lookup/onelookup/json/JsonMembers", "space", "(I)I"⟩ : MethodName)) (y' := (⟨"com/example/one_lookup/onelookup/json/JsonMembers", "next", "()Z"⟩ : MethodName)) (rf := 1) (rl := 12) hown (hw _ (List.mem_of_getElem? (i := 31) rfl)) (hw _ (List.mem_of_getElem? (i := 32) rfl)) (hw _ (List.mem_of_getElem? (i := 33) rfl)) (hw _ (List.mem_of_getElem? (i := 27) rfl)) rfl (hw _ (List.mem_of_getElem? (i := 8) rfl)) (hw _ (List.mem_of_getElem? (i := 34) rfl)) (by decide) (asL := [(.int ((Int32.ofNat (13)) + (1 : Int32)))]) (a := a) (rspace l Z a0 hw a t f (.int (Int32.ofNat (10))) (.int (0 : Int32)) (.int (1 : Int32)) (.int (13 : Int32)) (.int r5) (.int (Int32.ofNat en0)) ((Int32.ofNat (13)) + (1 : Int32)) h_3 (14) (vs) (by decide) (by omega) (by omega) hsp (fun _ => own_vsp hV) Pa_3 At_3) e_3 Pa_3.1 pd_2 rfl rfl 1 (Nat.le_of_eq rfl) (by decide) (by decide) (by decide) (by decide) d5_231 234 rfl ?_
  intro T X e_3
  refine o_putF C X hZ hown (hw _ (List.mem_of_getElem? (i := 48) rfl)) Via.refl e_3 Pa_3.2.2.2.2.2.2.1 Pa_3.1 (Or.inl (hw _ (List.mem_of_getElem? (i := 49) rfl))) (hw _ (List.mem_of_getElem? (i := 7) rfl)) (ty := .int) (by decide) rfl rfl d5_234 237 rfl N0 ge_a ?_
  intro T h_4 locs_4 X e_4 W_4 N0
  have Pa_4 := Pa_3.wr5 hw W_4
  have At_4 := At_3.other W_4 (Ne.symm ne)
  have K_4 := K_3.wr W_4 (Or.inl (by simp))
  refine o_aloadN C X d5_237 238 rfl rfl rfl ?_
  refine o_aloadN C X d5_238 239 rfl rfl rfl ?_
  refine o_aloadN C X d5_239 240 rfl rfl rfl ?_
  refine o_getF C X hZ hown (hw _ (List.mem_of_getElem? (i := 48) rfl)) Via.refl e_4 Pa_4.2.2.2.2.2.2.1 d5_240 243 rfl ?_
  intro T X e_4
  refine o_callPrP C X hZ (by rw [hml]; rfl) (own := "com/example/one_lookup/onelookup/json/JsonMembers") (y := (⟨"com/example/one_lookup/onelookup/json/JsonMembers", "value", "(I)I"⟩ : MethodName)) (y' := (⟨"com/example/one_lookup/onelookup/json/JsonMembers", "next", "()Z"⟩ : MethodName)) (rf := 2) (rl := 26) hown (hw _ (List.mem_of_getElem? (i := 50) rfl)) (hw _ (List.mem_of_getElem? (i := 51) rfl)) (hw _ (List.mem_of_getElem? (i := 52) rfl)) (hw _ (List.mem_of_getElem? (i := 27) rfl)) rfl (hw _ (List.mem_of_getElem? (i := 8) rfl)) (hw _ (List.mem_of_getElem? (i := 53) rfl)) (by decide) (asL := [(.int (Int32.ofNat (vs)))]) (a := a) (rvalue l Z a0 hw a t f (.int (Int32.ofNat (10))) (.int (0 : Int32)) (.int (1 : Int32)) (.int (13 : Int32)) (.int (Int32.ofNat (vs))) (.int (Int32.ofNat en0)) (Int32.ofNat (vs)) h_4 vs en (own_to (by omega)) hV Pa_4 At_4) e_4 Pa_4.1 pd_2 rfl rfl 1 (Nat.le_of_eq rfl) (by decide) (by decide) (by decide) (by decide) d5_243 246 rfl ?_
  intro T X e_4
  refine o_putF C X hZ hown (hw _ (List.mem_of_getElem? (i := 54) rfl)) Via.refl e_4 Pa_4.2.2.2.2.2.2.2 Pa_4.1 (Or.inl (hw _ (List.mem_of_getElem? (i := 55) rfl))) (hw _ (List.mem_of_getElem? (i := 7) rfl)) (ty := .int) (by decide) rfl rfl d5_246 249 rfl N0 ge_a ?_
  intro T h_5 locs_5 X e_5 W_5 N0
  have Pa_5 := Pa_4.wr6 hw W_5
  have At_5 := At_4.other W_5 (Ne.symm ne)
  have K_5 := K_4.wr W_5 (Or.inl (by simp))
  refine o_iloadN C X d5_249 250 rfl rfl ?_
  exact o_retN C X hret (by simp) hlk d5_250 (by subst e_5; exact ⟨rfl, N0, K_5, Pa_5⟩) (Nat.le_refl _) (Nat.le_refl _)
set_option maxRecDepth 65536 in
set_option maxHeartbeats 40000000 in
theorem nx3 (l : Launch) (Z : State) (a0 : Array Value) (hw : ∀ d ∈ tables_1, d.before a0 Z = true) (a t : Addr) (f : Nat → Int32) (r4 r5 : Int32) (en0 : Nat) (h0 : Heap) (n0 : Nat) (ge_a : n0 ≤ a) (ne : a ≠ t) (he0 : en0 ≤ 18) (hs0 : ∀ k, k < 18 → en0 ≤ k → ¬ FSp (f k) = 0) (h18 : f 18 = 125) (P : JM Z h0 a (.int (Int32.ofNat 10)) (.ref t) (.int (0 : Int32)) (.int (1 : Int32)) (.int r4) (.int r5) (.int (Int32.ofNat en0))) (A : AI Z h0 t .byte 19 f) : Con l Z (⟨"com/example/one_lookup/onelookup/json/JsonMembers", "next", "()Z"⟩ : MethodName) prog_23_method_3_code 4 (some .boolean) ({ frames := 3, cells := 0, slots := 0, locals := 42 } : Room) 0 0 [] #[(.ref a)] h0 (fun v h L => v = some (.int 0) ∧ Fr n0 L ∧ Keep h0 h [a] ∧ JM Z h a (.int (-1)) (.ref t) (.int 0) (.int 1) (.int r4) (.int r5) (.int (Int32.ofNat en0))) := by
  refine Con.of pn_5 ?_
  intro p e s m below meth c T C hZ hml hown hret hnm hlk X e0
  rw [ef_5]
  have N0 := Fr.nil n0
  refine o_iconst C X d5_0 1 rfl (0 : Int32) (by decide) ?_
  refine o_istoreN C X d5_1 2 rfl #[.val (.ref a), .val (.int (0 : Int32)), .unset, .unset] rfl ?_
  refine o_iconst C X d5_2 3 rfl (0 : Int32) (by decide) ?_
  refine o_istoreN C X d5_3 4 rfl #[.val (.ref a), .val (.int (0 : Int32)), .val (.int (0 : Int32)), .unset] rfl ?_
  refine o_aloadN C X d5_4 5 rfl rfl rfl ?_
  refine o_getF C X hZ hown (hw _ (List.mem_of_getElem? (i := 29) rfl)) Via.refl e0 P.2.2.2.2.1 d5_5 8 rfl ?_
  intro T X e0
  refine o_ifY C X d5_8 82 (by decide) (by decide) ((if0 _ _).trans (feq (by decide : ¬ ((1 : Int32) = (0 : Int32)))).2) ?_
  refine o_aloadN C X d5_82 83 rfl rfl rfl ?_
  refine o_getF C X hZ hown (hw _ (List.mem_of_getElem? (i := 18) rfl)) Via.refl e0 P.2.1 d5_83 86 rfl ?_
  intro T X e0
  refine o_iconst C X d5_86 87 rfl (-1 : Int32) (by decide) ?_
  refine o_icmpN C X d5_87 90 rfl (feq (by decide : ¬ ((Int32.ofNat 10) = (-1 : Int32)))).1 ?_
  refine o_aloadN C X d5_90 91 rfl rfl rfl ?_
  refine o_aloadN C X d5_91 92 rfl rfl rfl ?_
  refine o_getF C X hZ hown (hw _ (List.mem_of_getElem? (i := 54) rfl)) Via.refl e0 P.2.2.2.2.2.2.2 d5_92 95 rfl ?_
  intro T X e0
  refine o_callPrP C X hZ (by rw [hml]; rfl) (own := "com/example/one_lookup/onelookup/json/JsonMembers") (y := (⟨"com/example/one_lookup/onelookup/json/JsonMembers", "space", "(I)I"⟩ : MethodName)) (y' := (⟨"com/example/one_lookup/onelookup/json/JsonMembers", "next", "()Z"⟩ : MethodName)) (rf := 1) (rl := 12) hown (hw _ (List.mem_of_getElem? (i := 31) rfl)) (hw _ (List.mem_of_getElem? (i := 32) rfl)) (hw _ (List.mem_of_getElem? (i := 33) rfl)) (hw _ (List.mem_of_getElem? (i := 27) rfl)) rfl (hw _ (List.mem_of_getElem? (i := 8) rfl)) (hw _ (List.mem_of_getElem? (i := 34) rfl)) (by decide) (asL := [(.int (Int32.ofNat en0))]) (a := a) (rspace l Z a0 hw a t f (.int (Int32.ofNat 10)) (.int (0 : Int32)) (.int (1 : Int32)) (.int r4) (.int r5) (.int (Int32.ofNat en0)) (Int32.ofNat en0) h0 (en0) (18) (own_to (by omega)) (by omega) (by omega) hs0 (fun _ => by rw [h18]; decide) P A) e0 P.1 pd_2 rfl rfl 0 (Nat.le_of_eq rfl) (by decide) (by decide) (by decide) (by decide) d5_95 98 rfl ?_
  intro T X e0
  refine o_istoreN C X d5_98 99 rfl #[.val (.ref a), .val (.int (0 : Int32)), .val (.int (Int32.ofNat (18))), .unset] rfl ?_
  refine o_iloadN C X d5_99 100 rfl rfl ?_
  refine o_aloadN C X d5_100 101 rfl rfl rfl ?_
  refine o_getF C X hZ hown (hw _ (List.mem_of_getElem? (i := 20) rfl)) Via.refl e0 P.2.2.1 d5_101 104 rfl ?_
  intro T X e0
  refine o_arraylength C X hZ e0 A (19 : Int32) rfl d5_104 105 rfl ?_
  refine o_icmpN C X d5_105 108 rfl (tlt (by decide : (Int32.ofNat (18)) < (19 : Int32))).2.1 ?_
  refine o_aloadN C X d5_108 109 rfl rfl rfl ?_
  refine o_getF C X hZ hown (hw _ (List.mem_of_getElem? (i := 20) rfl)) Via.refl e0 P.2.2.1 d5_109 112 rfl ?_
  intro T X e0
  refine o_iloadN C X d5_112 113 rfl rfl ?_
  refine o_baload C X hZ e0 A (18) (by decide) (by decide) d5_113 114 rfl ?_
  refine o_bipush C X d5_114 116 rfl (44 : Int32) (by decide) ?_
  refine o_icmpY C X d5_116 132 (by decide) (by decide) (feq (by rw [h18]; decide : ¬ ((f 18) = (44 : Int32)))).2 ?_
  refine o_iloadN C X d5_132 133 rfl rfl ?_
  refine o_aloadN C X d5_133 134 rfl rfl rfl ?_
  refine o_getF C X hZ hown (hw _ (List.mem_of_getElem? (i := 20) rfl)) Via.refl e0 P.2.2.1 d5_134 137 rfl ?_
  intro T X e0
  refine o_arraylength C X hZ e0 A (19 : Int32) rfl d5_137 138 rfl ?_
  refine o_icmpN C X d5_138 141 rfl (tlt (by decide : (Int32.ofNat (18)) < (19 : Int32))).2.1 ?_
  refine o_aloadN C X d5_141 142 rfl rfl rfl ?_
  refine o_getF C X hZ hown (hw _ (List.mem_of_getElem? (i := 20) rfl)) Via.refl e0 P.2.2.1 d5_142 145 rfl ?_
  intro T X e0
  refine o_iloadN C X d5_145 146 rfl rfl ?_
  refine o_baload C X hZ e0 A (18) (by decide) (by decide) d5_146 147 rfl ?_
  refine o_bipush C X d5_147 149 rfl (125 : Int32) (by decide) ?_
  refine o_icmpY C X d5_149 163 (by decide) (by decide) (teq h18).1 ?_
  refine o_aloadN C X d5_163 164 rfl rfl rfl ?_
  refine o_iconst C X d5_164 165 rfl (-1 : Int32) (by decide) ?_
  refine o_putF C X hZ hown (hw _ (List.mem_of_getElem? (i := 18) rfl)) Via.refl e0 P.2.1 P.1 (Or.inl (hw _ (List.mem_of_getElem? (i := 19) rfl))) (hw _ (List.mem_of_getElem? (i := 7) rfl)) (ty := .int) (by decide) rfl rfl d5_165 168 rfl N0 ge_a ?_
  intro T h_1 locs_1 X e_1 W_1 N0
  have Pa_1 := P.wr0 hw W_1
  have At_1 := A.other W_1 (Ne.symm ne)
  have K_1 := (Keep.refl h0 [a]).wr W_1 (Or.inl (by simp))
  refine o_iloadN C X d5_168 169 rfl rfl ?_
  refine o_ifY C X d5_169 249 (by decide) (by decide) ((if0 _ _).trans (teq (rfl : (0 : Int32) = (0 : Int32))).1) ?_
  refine o_iloadN C X d5_249 250 rfl rfl ?_
  exact o_retN C X hret (by simp) hlk d5_250 (by subst e_1; exact ⟨rfl, N0, K_1, Pa_1⟩) (Nat.le_refl _) (Nat.le_refl _)
theorem nar_i2b (x : Int32) : nar .byte x.toInt8.toInt32 = x.toInt8.toInt32 := by
  show x.toInt8.toInt32.toInt8.toInt32 = _
  rw [Int8.toInt8_toInt32]
theorem i_eq (z k : Int32) (n : Int) (h : k.toInt = n) : (z = k) = (z.toInt = n) := by
  rw [← h]; exact propext Int32.toInt_inj.symm
theorem VAL.congr {f g : Nat → Int32} {lim i en : Nat} (h : VAL f lim i en) (hl : lim ≤ 19) (q : ∀ j, i ≤ j → j < lim → g j = f j) : VAL g 19 i en := by
  rcases h with ⟨k, ⟨h1, h2, h3, h4, h5⟩, rfl⟩ | ⟨h1, h2, rfl⟩ | ⟨h1, h2, h3, h4, h5, h6, h7, h8⟩
  · exact Or.inl ⟨k, ⟨h1, by omega, by rw [q i (Nat.le_refl _) (by omega)]; exact h3, by rw [q k (by omega) h2]; exact h4, fun m m1 m2 => by rw [q m (by omega) (by omega)]; exact h5 m m1 m2⟩, rfl⟩
  · refine Or.inr (Or.inl ⟨by omega, ?_, rfl⟩)
    rw [q i (Nat.le_refl _) (by omega), q (i + 1) (by omega) h1]; exact h2
  · refine Or.inr (Or.inr ⟨h1, by omega, ?_⟩)
    rw [q i (Nat.le_refl _) (by omega), q en (by omega) h2]
    exact ⟨h3, h4, h5, fun m m1 m2 => by rw [q m m1 (by omega)]; exact h6 m m1 m2, h7, h8⟩
def REG (g : Nat → Int32) (pa vs en : Nat) : Prop := pa ≤ vs ∧ en ≤ pa + 4 ∧ (∀ k, k < vs → pa ≤ k → ¬ FSp (g k) = 0) ∧ (∀ k, k < pa + 4 → en ≤ k → ¬ FSp (g k) = 0) ∧ VAL g (pa + 4) vs en
theorem own_en {x : Int32} (h : ¬ FSp x = 0) : ¬ FEn x = 0 := by
  unfold FEn
  (repeat' split) <;> first | decide | (exact absurd (by assumption) h)
theorem own_rngs (x : Int32) (lo hi : Int) (h1 : lo ≤ x.toInt) (h2 : x.toInt ≤ hi) (h3 : -128 ≤ lo) (h4 : hi ≤ 127) : x.toInt8.toInt32 = x := by
  have := c_i2b x
  apply Int32.toInt_inj.mp
  omega
theorem own_dig (x : Int32) (k : Int32) (d : Int) (hk : k.toInt = d) (b : Int32) (bd : Int) (hb : b.toInt = bd) (h0 : 0 < d) (h1 : d ≤ 26) (h2 : 0 ≤ bd) (h3 : bd ≤ 97) : ∃ z : Int, 0 ≤ z ∧ z < d ∧ (b + (x &&& (2147483647 : Int32)) % k).toInt8.toInt32.toInt = bd + z := by
  have hn := c_mask x 2147483647 31 (by decide) (by decide)
  have hr := (c_irem (x &&& 2147483647) k d hk).1 (by omega)
  have e1 := Int.emod_nonneg (x &&& (2147483647 : Int32)).toInt (show d ≠ 0 by omega)
  have e2 := Int.emod_lt_of_pos (x &&& (2147483647 : Int32)).toInt h0
  have s := c_iadd b ((x &&& 2147483647) % k)
  have r := rng32 (b + (x &&& 2147483647) % k)
  refine ⟨((x &&& (2147483647 : Int32)) % k).toInt, by omega, by omega, ?_⟩
  rw [own_rngs _ 0 127 (by omega) (by omega) (by decide) (by decide)]
  omega
theorem own_num {x : Int32} (h1 : 48 ≤ x.toInt) (h2 : x.toInt ≤ 57) : (¬ x = 34 ∧ ¬ x = 123 ∧ ¬ x = 91) ∧ FEn x = 0 ∧ ¬ FDg x = 0 := by
  unfold FEn FDg FSp
  simp only [i_eq x 34 34 rfl, i_eq x 123 123 rfl, i_eq x 91 91 rfl, i_eq x 44 44 rfl, i_eq x 125 125 rfl, i_eq x 93 93 rfl, i_eq x 32 32 rfl, i_eq x 9 9 rfl, i_eq x 10 10 rfl, i_eq x 13 13 rfl, Int32.lt_iff_toInt_lt, show (48 : Int32).toInt = 48 from rfl, show (57 : Int32).toInt = 57 from rfl]
  refine ⟨by omega, ?_, ?_⟩
  · simp (disch := omega) only [if_neg, if_pos, if_true, if_false]
  · simp (disch := omega) only [if_neg, if_pos, if_true, if_false]; decide
theorem own_let {x : Int32} (h1 : 97 ≤ x.toInt) (h2 : x.toInt ≤ 122) : (¬ x = 34 ∧ ¬ x = 123 ∧ ¬ x = 91) ∧ FEn x = 0 ∧ ¬ FLt x = 0 := by
  unfold FEn FLt FSp
  simp only [i_eq x 34 34 rfl, i_eq x 123 123 rfl, i_eq x 91 91 rfl, i_eq x 44 44 rfl, i_eq x 125 125 rfl, i_eq x 93 93 rfl, i_eq x 32 32 rfl, i_eq x 9 9 rfl, i_eq x 10 10 rfl, i_eq x 13 13 rfl, Int32.lt_iff_toInt_lt, show (97 : Int32).toInt = 97 from rfl, show (122 : Int32).toInt = 122 from rfl]
  refine ⟨by omega, ?_, ?_⟩
  · simp (disch := omega) only [if_neg, if_pos, if_true, if_false]
  · simp (disch := omega) only [if_neg, if_pos, if_true, if_false]; decide
theorem own_b (u : Int32) (q1 : ¬ (u &&& (255 : Int32)) < 32) (q2 : ¬ (u &&& (255 : Int32)) = 34) (q3 : ¬ (u &&& (255 : Int32)) = 92) : ¬ (u &&& (255 : Int32)).toInt8.toInt32 = 34 ∧ ¬ FU (u &&& (255 : Int32)).toInt8.toInt32 < 32 ∧ ¬ (u &&& (255 : Int32)).toInt8.toInt32 = 92 := by
  have h := c_mask u 255 8 (by decide) (by decide)
  generalize (u &&& (255 : Int32)) = x at *
  have b := c_i2b x
  have m := c_mask x.toInt8.toInt32 255 8 (by decide) (by decide)
  unfold FU
  simp only [i_eq _ 34 34 rfl, i_eq _ 92 92 rfl, Int32.lt_iff_toInt_lt, show (32 : Int32).toInt = 32 from rfl] at *
  omega
theorem d1_0 : decode method_3_code 0 = .ok (.iload 4, 2) := by decide +kernel
theorem d1_2 : decode method_3_code 2 = .ok (.iconst 3, 1) := by decide +kernel
theorem d1_3 : decode method_3_code 3 = .ok (.iand, 1) := by decide +kernel
theorem d1_4 : decode method_3_code 4 = .ok (.istore 5, 2) := by decide +kernel
theorem d1_6 : decode method_3_code 6 = .ok (.iload 5, 2) := by decide +kernel
theorem d1_8 : decode method_3_code 8 = .ok (.ifCond .ne 8, 3) := by decide +kernel
theorem d1_11 : decode method_3_code 11 = .ok (.bipush 32, 2) := by decide +kernel
theorem d1_13 : decode method_3_code 13 = .ok (.goto 27, 3) := by decide +kernel
theorem d1_16 : decode method_3_code 16 = .ok (.iload 5, 2) := by decide +kernel
theorem d1_18 : decode method_3_code 18 = .ok (.iconst 1, 1) := by decide +kernel
theorem d1_19 : decode method_3_code 19 = .ok (.if_icmp .ne 8, 3) := by decide +kernel
theorem d1_22 : decode method_3_code 22 = .ok (.bipush 9, 2) := by decide +kernel
theorem d1_24 : decode method_3_code 24 = .ok (.goto 16, 3) := by decide +kernel
theorem d1_27 : decode method_3_code 27 = .ok (.iload 5, 2) := by decide +kernel
theorem d1_29 : decode method_3_code 29 = .ok (.iconst 2, 1) := by decide +kernel
theorem d1_30 : decode method_3_code 30 = .ok (.if_icmp .ne 8, 3) := by decide +kernel
theorem d1_33 : decode method_3_code 33 = .ok (.bipush 10, 2) := by decide +kernel
theorem d1_35 : decode method_3_code 35 = .ok (.goto 5, 3) := by decide +kernel
theorem d1_38 : decode method_3_code 38 = .ok (.bipush 13, 2) := by decide +kernel
theorem d1_40 : decode method_3_code 40 = .ok (.istore 6, 2) := by decide +kernel
theorem d1_42 : decode method_3_code 42 = .ok (.aload_n 0, 1) := by decide +kernel
theorem d1_43 : decode method_3_code 43 = .ok (.iload_n 1, 1) := by decide +kernel
theorem d1_44 : decode method_3_code 44 = .ok (.iload 6, 2) := by decide +kernel
theorem d1_46 : decode method_3_code 46 = .ok (.bastore, 1) := by decide +kernel
theorem d1_47 : decode method_3_code 47 = .ok (.aload_n 0, 1) := by decide +kernel
theorem d1_48 : decode method_3_code 48 = .ok (.iload_n 1, 1) := by decide +kernel
theorem d1_49 : decode method_3_code 49 = .ok (.iconst 1, 1) := by decide +kernel
theorem d1_50 : decode method_3_code 50 = .ok (.iadd, 1) := by decide +kernel
theorem d1_51 : decode method_3_code 51 = .ok (.iload 6, 2) := by decide +kernel
theorem d1_53 : decode method_3_code 53 = .ok (.bastore, 1) := by decide +kernel
theorem d1_54 : decode method_3_code 54 = .ok (.aload_n 0, 1) := by decide +kernel
theorem d1_55 : decode method_3_code 55 = .ok (.iload_n 1, 1) := by decide +kernel
theorem d1_56 : decode method_3_code 56 = .ok (.iconst 2, 1) := by decide +kernel
theorem d1_57 : decode method_3_code 57 = .ok (.iadd, 1) := by decide +kernel
theorem d1_58 : decode method_3_code 58 = .ok (.iload 6, 2) := by decide +kernel
theorem d1_60 : decode method_3_code 60 = .ok (.bastore, 1) := by decide +kernel
theorem d1_61 : decode method_3_code 61 = .ok (.aload_n 0, 1) := by decide +kernel
theorem d1_62 : decode method_3_code 62 = .ok (.iload_n 1, 1) := by decide +kernel
theorem d1_63 : decode method_3_code 63 = .ok (.iconst 3, 1) := by decide +kernel
theorem d1_64 : decode method_3_code 64 = .ok (.iadd, 1) := by decide +kernel
theorem d1_65 : decode method_3_code 65 = .ok (.iload 6, 2) := by decide +kernel
theorem d1_67 : decode method_3_code 67 = .ok (.bastore, 1) := by decide +kernel
theorem d1_68 : decode method_3_code 68 = .ok (.iload 4, 2) := by decide +kernel
theorem d1_70 : decode method_3_code 70 = .ok (.iconst 4, 1) := by decide +kernel
theorem d1_71 : decode method_3_code 71 = .ok (.iand, 1) := by decide +kernel
theorem d1_72 : decode method_3_code 72 = .ok (.ifCond .eq 9, 3) := by decide +kernel
theorem d1_75 : decode method_3_code 75 = .ok (.iload_n 1, 1) := by decide +kernel
theorem d1_76 : decode method_3_code 76 = .ok (.iconst 1, 1) := by decide +kernel
theorem d1_77 : decode method_3_code 77 = .ok (.iadd, 1) := by decide +kernel
theorem d1_78 : decode method_3_code 78 = .ok (.goto 4, 3) := by decide +kernel
theorem d1_81 : decode method_3_code 81 = .ok (.iload_n 1, 1) := by decide +kernel
theorem d1_82 : decode method_3_code 82 = .ok (.istore 7, 2) := by decide +kernel
theorem d1_84 : decode method_3_code 84 = .ok (.iload_n 3, 1) := by decide +kernel
theorem d1_85 : decode method_3_code 85 = .ok (.sipush 255, 3) := by decide +kernel
theorem d1_88 : decode method_3_code 88 = .ok (.iand, 1) := by decide +kernel
theorem d1_89 : decode method_3_code 89 = .ok (.istore 8, 2) := by decide +kernel
theorem d1_91 : decode method_3_code 91 = .ok (.iload_n 3, 1) := by decide +kernel
theorem d1_92 : decode method_3_code 92 = .ok (.ldc 7, 2) := by decide +kernel
theorem d1_94 : decode method_3_code 94 = .ok (.iand, 1) := by decide +kernel
theorem d1_95 : decode method_3_code 95 = .ok (.istore 9, 2) := by decide +kernel
theorem d1_97 : decode method_3_code 97 = .ok (.iload_n 2, 1) := by decide +kernel
theorem d1_98 : decode method_3_code 98 = .ok (.ifCond .ne 59, 3) := by decide +kernel
theorem d1_101 : decode method_3_code 101 = .ok (.iload 8, 2) := by decide +kernel
theorem d1_103 : decode method_3_code 103 = .ok (.bipush 32, 2) := by decide +kernel
theorem d1_105 : decode method_3_code 105 = .ok (.if_icmp .lt 17, 3) := by decide +kernel
theorem d1_108 : decode method_3_code 108 = .ok (.iload 8, 2) := by decide +kernel
theorem d1_110 : decode method_3_code 110 = .ok (.bipush 34, 2) := by decide +kernel
theorem d1_112 : decode method_3_code 112 = .ok (.if_icmp .eq 10, 3) := by decide +kernel
theorem d1_115 : decode method_3_code 115 = .ok (.iload 8, 2) := by decide +kernel
theorem d1_117 : decode method_3_code 117 = .ok (.bipush 92, 2) := by decide +kernel
theorem d1_119 : decode method_3_code 119 = .ok (.if_icmp .ne 8, 3) := by decide +kernel
theorem d1_122 : decode method_3_code 122 = .ok (.bipush 122, 2) := by decide +kernel
theorem d1_124 : decode method_3_code 124 = .ok (.goto 6, 3) := by decide +kernel
theorem d1_127 : decode method_3_code 127 = .ok (.iload 8, 2) := by decide +kernel
theorem d1_129 : decode method_3_code 129 = .ok (.i2b, 1) := by decide +kernel
theorem d1_130 : decode method_3_code 130 = .ok (.istore 10, 2) := by decide +kernel
theorem d1_132 : decode method_3_code 132 = .ok (.aload_n 0, 1) := by decide +kernel
theorem d1_133 : decode method_3_code 133 = .ok (.iload 7, 2) := by decide +kernel
theorem d1_135 : decode method_3_code 135 = .ok (.bipush 34, 2) := by decide +kernel
theorem d1_137 : decode method_3_code 137 = .ok (.bastore, 1) := by decide +kernel
theorem d1_138 : decode method_3_code 138 = .ok (.aload_n 0, 1) := by decide +kernel
theorem d1_139 : decode method_3_code 139 = .ok (.iload 7, 2) := by decide +kernel
theorem d1_141 : decode method_3_code 141 = .ok (.iconst 1, 1) := by decide +kernel
theorem d1_142 : decode method_3_code 142 = .ok (.iadd, 1) := by decide +kernel
theorem d1_143 : decode method_3_code 143 = .ok (.iload 10, 2) := by decide +kernel
theorem d1_145 : decode method_3_code 145 = .ok (.bastore, 1) := by decide +kernel
theorem d1_146 : decode method_3_code 146 = .ok (.aload_n 0, 1) := by decide +kernel
theorem d1_147 : decode method_3_code 147 = .ok (.iload 7, 2) := by decide +kernel
theorem d1_149 : decode method_3_code 149 = .ok (.iconst 2, 1) := by decide +kernel
theorem d1_150 : decode method_3_code 150 = .ok (.iadd, 1) := by decide +kernel
theorem d1_151 : decode method_3_code 151 = .ok (.bipush 34, 2) := by decide +kernel
theorem d1_153 : decode method_3_code 153 = .ok (.bastore, 1) := by decide +kernel
theorem d1_154 : decode method_3_code 154 = .ok (.goto 132, 3) := by decide +kernel
theorem d1_157 : decode method_3_code 157 = .ok (.iload_n 2, 1) := by decide +kernel
theorem d1_158 : decode method_3_code 158 = .ok (.iconst 1, 1) := by decide +kernel
theorem d1_159 : decode method_3_code 159 = .ok (.if_icmp .ne 20, 3) := by decide +kernel
theorem d1_162 : decode method_3_code 162 = .ok (.aload_n 0, 1) := by decide +kernel
theorem d1_163 : decode method_3_code 163 = .ok (.iload 7, 2) := by decide +kernel
theorem d1_165 : decode method_3_code 165 = .ok (.bipush 34, 2) := by decide +kernel
theorem d1_167 : decode method_3_code 167 = .ok (.bastore, 1) := by decide +kernel
theorem d1_168 : decode method_3_code 168 = .ok (.aload_n 0, 1) := by decide +kernel
theorem d1_169 : decode method_3_code 169 = .ok (.iload 7, 2) := by decide +kernel
theorem d1_171 : decode method_3_code 171 = .ok (.iconst 1, 1) := by decide +kernel
theorem d1_172 : decode method_3_code 172 = .ok (.iadd, 1) := by decide +kernel
theorem d1_173 : decode method_3_code 173 = .ok (.bipush 34, 2) := by decide +kernel
theorem d1_175 : decode method_3_code 175 = .ok (.bastore, 1) := by decide +kernel
theorem d1_176 : decode method_3_code 176 = .ok (.goto 110, 3) := by decide +kernel
theorem d1_179 : decode method_3_code 179 = .ok (.iload_n 2, 1) := by decide +kernel
theorem d1_180 : decode method_3_code 180 = .ok (.iconst 2, 1) := by decide +kernel
theorem d1_181 : decode method_3_code 181 = .ok (.if_icmp .ne 19, 3) := by decide +kernel
theorem d1_184 : decode method_3_code 184 = .ok (.aload_n 0, 1) := by decide +kernel
theorem d1_185 : decode method_3_code 185 = .ok (.iload 7, 2) := by decide +kernel
theorem d1_187 : decode method_3_code 187 = .ok (.bipush 48, 2) := by decide +kernel
theorem d1_189 : decode method_3_code 189 = .ok (.iload 9, 2) := by decide +kernel
theorem d1_191 : decode method_3_code 191 = .ok (.bipush 10, 2) := by decide +kernel
theorem d1_193 : decode method_3_code 193 = .ok (.irem, 1) := by decide +kernel
theorem d1_194 : decode method_3_code 194 = .ok (.iadd, 1) := by decide +kernel
theorem d1_195 : decode method_3_code 195 = .ok (.i2b, 1) := by decide +kernel
theorem d1_196 : decode method_3_code 196 = .ok (.bastore, 1) := by decide +kernel
theorem d1_197 : decode method_3_code 197 = .ok (.goto 89, 3) := by decide +kernel
theorem d1_200 : decode method_3_code 200 = .ok (.iload_n 2, 1) := by decide +kernel
theorem d1_201 : decode method_3_code 201 = .ok (.iconst 3, 1) := by decide +kernel
theorem d1_202 : decode method_3_code 202 = .ok (.if_icmp .ne 27, 3) := by decide +kernel
theorem d1_205 : decode method_3_code 205 = .ok (.aload_n 0, 1) := by decide +kernel
theorem d1_206 : decode method_3_code 206 = .ok (.iload 7, 2) := by decide +kernel
theorem d1_208 : decode method_3_code 208 = .ok (.bipush 45, 2) := by decide +kernel
theorem d1_210 : decode method_3_code 210 = .ok (.bastore, 1) := by decide +kernel
theorem d1_211 : decode method_3_code 211 = .ok (.aload_n 0, 1) := by decide +kernel
theorem d1_212 : decode method_3_code 212 = .ok (.iload 7, 2) := by decide +kernel
theorem d1_214 : decode method_3_code 214 = .ok (.iconst 1, 1) := by decide +kernel
theorem d1_215 : decode method_3_code 215 = .ok (.iadd, 1) := by decide +kernel
theorem d1_216 : decode method_3_code 216 = .ok (.bipush 48, 2) := by decide +kernel
theorem d1_218 : decode method_3_code 218 = .ok (.iload 9, 2) := by decide +kernel
theorem d1_220 : decode method_3_code 220 = .ok (.bipush 10, 2) := by decide +kernel
theorem d1_222 : decode method_3_code 222 = .ok (.irem, 1) := by decide +kernel
theorem d1_223 : decode method_3_code 223 = .ok (.iadd, 1) := by decide +kernel
theorem d1_224 : decode method_3_code 224 = .ok (.i2b, 1) := by decide +kernel
theorem d1_225 : decode method_3_code 225 = .ok (.bastore, 1) := by decide +kernel
theorem d1_226 : decode method_3_code 226 = .ok (.goto 60, 3) := by decide +kernel
theorem d1_229 : decode method_3_code 229 = .ok (.iload_n 2, 1) := by decide +kernel
theorem d1_230 : decode method_3_code 230 = .ok (.iconst 4, 1) := by decide +kernel
theorem d1_231 : decode method_3_code 231 = .ok (.if_icmp .ne 19, 3) := by decide +kernel
theorem d1_234 : decode method_3_code 234 = .ok (.aload_n 0, 1) := by decide +kernel
theorem d1_235 : decode method_3_code 235 = .ok (.iload 7, 2) := by decide +kernel
theorem d1_237 : decode method_3_code 237 = .ok (.bipush 97, 2) := by decide +kernel
theorem d1_239 : decode method_3_code 239 = .ok (.iload 9, 2) := by decide +kernel
theorem d1_241 : decode method_3_code 241 = .ok (.bipush 26, 2) := by decide +kernel
theorem d1_243 : decode method_3_code 243 = .ok (.irem, 1) := by decide +kernel
theorem d1_244 : decode method_3_code 244 = .ok (.iadd, 1) := by decide +kernel
theorem d1_245 : decode method_3_code 245 = .ok (.i2b, 1) := by decide +kernel
theorem d1_246 : decode method_3_code 246 = .ok (.bastore, 1) := by decide +kernel
theorem d1_247 : decode method_3_code 247 = .ok (.goto 39, 3) := by decide +kernel
theorem d1_250 : decode method_3_code 250 = .ok (.iload_n 2, 1) := by decide +kernel
theorem d1_251 : decode method_3_code 251 = .ok (.iconst 5, 1) := by decide +kernel
theorem d1_252 : decode method_3_code 252 = .ok (.if_icmp .ne 20, 3) := by decide +kernel
theorem d1_255 : decode method_3_code 255 = .ok (.aload_n 0, 1) := by decide +kernel
theorem d1_256 : decode method_3_code 256 = .ok (.iload 7, 2) := by decide +kernel
theorem d1_258 : decode method_3_code 258 = .ok (.bipush 123, 2) := by decide +kernel
theorem d1_260 : decode method_3_code 260 = .ok (.bastore, 1) := by decide +kernel
theorem d1_261 : decode method_3_code 261 = .ok (.aload_n 0, 1) := by decide +kernel
theorem d1_262 : decode method_3_code 262 = .ok (.iload 7, 2) := by decide +kernel
theorem d1_264 : decode method_3_code 264 = .ok (.iconst 1, 1) := by decide +kernel
theorem d1_265 : decode method_3_code 265 = .ok (.iadd, 1) := by decide +kernel
theorem d1_266 : decode method_3_code 266 = .ok (.bipush 125, 2) := by decide +kernel
theorem d1_268 : decode method_3_code 268 = .ok (.bastore, 1) := by decide +kernel
theorem d1_269 : decode method_3_code 269 = .ok (.goto 17, 3) := by decide +kernel
theorem d1_272 : decode method_3_code 272 = .ok (.aload_n 0, 1) := by decide +kernel
theorem d1_273 : decode method_3_code 273 = .ok (.iload 7, 2) := by decide +kernel
theorem d1_275 : decode method_3_code 275 = .ok (.bipush 91, 2) := by decide +kernel
theorem d1_277 : decode method_3_code 277 = .ok (.bastore, 1) := by decide +kernel
theorem d1_278 : decode method_3_code 278 = .ok (.aload_n 0, 1) := by decide +kernel
theorem d1_279 : decode method_3_code 279 = .ok (.iload 7, 2) := by decide +kernel
theorem d1_281 : decode method_3_code 281 = .ok (.iconst 1, 1) := by decide +kernel
theorem d1_282 : decode method_3_code 282 = .ok (.iadd, 1) := by decide +kernel
theorem d1_283 : decode method_3_code 283 = .ok (.bipush 93, 2) := by decide +kernel
theorem d1_285 : decode method_3_code 285 = .ok (.bastore, 1) := by decide +kernel
theorem d1_286 : decode method_3_code 286 = .ok (.return_, 1) := by decide +kernel
theorem pn_1 : plainFor (⟨"com/example/one_lookup/onelookup/json/JsonMembersIsStringPinLaw", "fill", "([BIIII)V"⟩ : MethodName) = true := by first | exact plainFor_of_name (by first | (simp [plainName, overriddenIn]; done) | decide +kernel) | decide +kernel
theorem ef_1 (m : MethodId) (t : Addr) (at0 : Int32) (kd : Int32) (u3 : Int32) (u4 : Int32) : entryFrame m #[(.ref t), (.int at0), (.int kd), (.int u3), (.int u4)] 11 = (mkF m 0 #[.val (.ref t), .val (.int at0), .val (.int kd), .val (.int u3), .val (.int u4), .unset, .unset, .unset, .unset, .unset, .unset] []) := by first | (simp [entryFrame, mkF, argsToLocals, Value.category]; done) | rfl
set_option maxRecDepth 65536 in
set_option maxHeartbeats 40000000 in
theorem rm1 (l : Launch) (Z : State) (a0 : Array Value) (hw : ∀ d ∈ tables_1, d.before a0 Z = true) (t : Addr) (at0 kd u3 u4 : Int32) (f : Nat → Int32) (h0 : Heap) (pa n0 : Nat) (ge_t : n0 ≤ t) (hat : at0.toInt = pa) (h19 : pa + 4 ≤ 19) (hk : 0 ≤ kd.toInt ∧ kd.toInt ≤ 6) (A : AI Z h0 t .byte 19 f) : Con l Z (⟨"com/example/one_lookup/onelookup/json/JsonMembersIsStringPinLaw", "fill", "([BIIII)V"⟩ : MethodName) method_3_code 11 none ({ frames := 0, cells := 0, slots := 0, locals := 0 } : Room) 0 0 [] #[(.ref t), (.int at0), (.int kd), (.int u3), (.int u4)] h0 (fun v h L => ∃ (g : Nat → Int32) (vs en : Nat), v = none ∧ Fr n0 L ∧ Keep h0 h [t] ∧ AI Z h t .byte 19 g ∧ (∀ j, (j < pa ∨ pa + 4 ≤ j) → g j = f j) ∧ REG g pa vs en ∧ (g vs = 34 ↔ ¬ 1 < kd)) := by
  refine Con.of pn_1 ?_
  intro p e s m below meth c T C hZ hml hown hret hnm hlk X e0
  rw [ef_1]
  have N0 := Fr.nil n0
  refine o_iload C X d1_0 2 rfl rfl ?_
  refine o_iconst C X d1_2 3 rfl (3 : Int32) (by decide) ?_
  refine o_iand C X d1_3 4 rfl ?_
  refine o_istore C X d1_4 6 rfl #[.val (.ref t), .val (.int at0), .val (.int kd), .val (.int u3), .val (.int u4), .val (.int (u4 &&& (3 : Int32))), .unset, .unset, .unset, .unset, .unset] rfl ?_
  refine o_iload C X d1_6 8 rfl rfl ?_
  refine Ends.via (T := T) (mkF m 40 #[.val (.ref t), .val (.int at0), .val (.int kd), .val (.int u3), .val (.int u4), .val (.int (u4 &&& (3 : Int32))), .unset, .unset, .unset, .unset, .unset] [(.int (if (u4 &&& (3 : Int32)) = (0 : Int32) then (32 : Int32) else (if (u4 &&& (3 : Int32)) = (1 : Int32) then (9 : Int32) else (if (u4 &&& (3 : Int32)) = (2 : Int32) then (10 : Int32) else (13 : Int32)))))]) (fun K0 => ?_) ?_
  · skip
    by_cases q13 : (u4 &&& (3 : Int32)) = (0 : Int32)
    · skip
      refine o_ifN C X d1_8 11 rfl ((if0 _ _).trans (teq q13).2) ?_
      refine o_bipush C X d1_11 13 rfl (32 : Int32) (by decide) ?_
      refine o_goto C X d1_13 40 (by decide) (by decide) ?_
      simp only [if_pos q13] at K0
      exact K0
    · skip
      refine o_ifY C X d1_8 16 (by decide) (by decide) ((if0 _ _).trans (feq q13).2) ?_
      refine o_iload C X d1_16 18 rfl rfl ?_
      refine o_iconst C X d1_18 19 rfl (1 : Int32) (by decide) ?_
      by_cases q14 : (u4 &&& (3 : Int32)) = (1 : Int32)
      · skip
        refine o_icmpN C X d1_19 22 rfl (teq q14).2 ?_
        refine o_bipush C X d1_22 24 rfl (9 : Int32) (by decide) ?_
        refine o_goto C X d1_24 40 (by decide) (by decide) ?_
        simp only [if_neg q13, if_pos q14] at K0
        exact K0
      · skip
        refine o_icmpY C X d1_19 27 (by decide) (by decide) (feq q14).2 ?_
        refine o_iload C X d1_27 29 rfl rfl ?_
        refine o_iconst C X d1_29 30 rfl (2 : Int32) (by decide) ?_
        by_cases q15 : (u4 &&& (3 : Int32)) = (2 : Int32)
        · skip
          refine o_icmpN C X d1_30 33 rfl (teq q15).2 ?_
          refine o_bipush C X d1_33 35 rfl (10 : Int32) (by decide) ?_
          refine o_goto C X d1_35 40 (by decide) (by decide) ?_
          simp only [if_neg q13, if_neg q14, if_pos q15] at K0
          exact K0
        · skip
          refine o_icmpY C X d1_30 38 (by decide) (by decide) (feq q15).2 ?_
          refine o_bipush C X d1_38 40 rfl (13 : Int32) (by decide) ?_
          simp only [if_neg q13, if_neg q14, if_neg q15] at K0
          exact K0
  refine o_istore C X d1_40 42 rfl #[.val (.ref t), .val (.int at0), .val (.int kd), .val (.int u3), .val (.int u4), .val (.int (u4 &&& (3 : Int32))), .val (.int (if (u4 &&& (3 : Int32)) = (0 : Int32) then (32 : Int32) else (if (u4 &&& (3 : Int32)) = (1 : Int32) then (9 : Int32) else (if (u4 &&& (3 : Int32)) = (2 : Int32) then (10 : Int32) else (13 : Int32))))), .unset, .unset, .unset, .unset] rfl ?_
  generalize hws : (if (u4 &&& (3 : Int32)) = (0 : Int32) then (32 : Int32) else (if (u4 &&& (3 : Int32)) = (1 : Int32) then (9 : Int32) else (if (u4 &&& (3 : Int32)) = (2 : Int32) then (10 : Int32) else (13 : Int32)))) = ws
  have psp : ¬ FSp (nar .byte ws) = 0 := by rw [← hws]; (repeat' split) <;> decide
  refine o_aloadN C X d1_42 43 rfl rfl rfl ?_
  refine o_iloadN C X d1_43 44 rfl rfl ?_
  refine o_iload C X d1_44 46 rfl rfl ?_
  refine o_bastore C X hZ e0 A (pa) hat (by omega) d1_46 47 rfl N0 ge_t ?_
  intro T h_1 locs_1 X e_1 W_1 N0 At_1
  have K_1 := (Keep.refl h0 [t]).wr W_1 (Or.inl (by simp))
  refine o_aloadN C X d1_47 48 rfl rfl rfl ?_
  refine o_iloadN C X d1_48 49 rfl rfl ?_
  refine o_iconst C X d1_49 50 rfl (1 : Int32) (by decide) ?_
  refine o_iadd C X d1_50 51 rfl ?_
  refine o_iload C X d1_51 53 rfl rfl ?_
  refine o_bastore C X hZ e_1 At_1 (pa + 1) (own_add hat rfl (by omega) (by decide)) (by omega) d1_53 54 rfl N0 ge_t ?_
  intro T h_2 locs_2 X e_2 W_2 N0 At_2
  have K_2 := K_1.wr W_2 (Or.inl (by simp))
  refine o_aloadN C X d1_54 55 rfl rfl rfl ?_
  refine o_iloadN C X d1_55 56 rfl rfl ?_
  refine o_iconst C X d1_56 57 rfl (2 : Int32) (by decide) ?_
  refine o_iadd C X d1_57 58 rfl ?_
  refine o_iload C X d1_58 60 rfl rfl ?_
  refine o_bastore C X hZ e_2 At_2 (pa + 2) (own_add hat rfl (by omega) (by decide)) (by omega) d1_60 61 rfl N0 ge_t ?_
  intro T h_3 locs_3 X e_3 W_3 N0 At_3
  have K_3 := K_2.wr W_3 (Or.inl (by simp))
  refine o_aloadN C X d1_61 62 rfl rfl rfl ?_
  refine o_iloadN C X d1_62 63 rfl rfl ?_
  refine o_iconst C X d1_63 64 rfl (3 : Int32) (by decide) ?_
  refine o_iadd C X d1_64 65 rfl ?_
  refine o_iload C X d1_65 67 rfl rfl ?_
  refine o_bastore C X hZ e_3 At_3 (pa + 3) (own_add hat rfl (by omega) (by decide)) (by omega) d1_67 68 rfl N0 ge_t ?_
  intro T h_4 locs_4 X e_4 W_4 N0 At_4
  have K_4 := K_3.wr W_4 (Or.inl (by simp))
  refine o_iload C X d1_68 70 rfl rfl ?_
  refine o_iconst C X d1_70 71 rfl (4 : Int32) (by decide) ?_
  refine o_iand C X d1_71 72 rfl ?_
  refine Ends.via (T := T) (mkF m 82 #[.val (.ref t), .val (.int at0), .val (.int kd), .val (.int u3), .val (.int u4), .val (.int (u4 &&& (3 : Int32))), .val (.int ws), .unset, .unset, .unset, .unset] [(.int (if (u4 &&& (4 : Int32)) = (0 : Int32) then at0 else (at0 + (1 : Int32))))]) (fun K0 => ?_) ?_
  · skip
    by_cases q16 : (u4 &&& (4 : Int32)) = (0 : Int32)
    · skip
      refine o_ifY C X d1_72 81 (by decide) (by decide) ((if0 _ _).trans (teq q16).1) ?_
      refine o_iloadN C X d1_81 82 rfl rfl ?_
      simp only [if_pos q16] at K0
      exact K0
    · skip
      refine o_ifN C X d1_72 75 rfl ((if0 _ _).trans (feq q16).1) ?_
      refine o_iloadN C X d1_75 76 rfl rfl ?_
      refine o_iconst C X d1_76 77 rfl (1 : Int32) (by decide) ?_
      refine o_iadd C X d1_77 78 rfl ?_
      refine o_goto C X d1_78 82 (by decide) (by decide) ?_
      simp only [if_neg q16] at K0
      exact K0
  refine o_istore C X d1_82 84 rfl #[.val (.ref t), .val (.int at0), .val (.int kd), .val (.int u3), .val (.int u4), .val (.int (u4 &&& (3 : Int32))), .val (.int ws), .val (.int (if (u4 &&& (4 : Int32)) = (0 : Int32) then at0 else (at0 + (1 : Int32)))), .unset, .unset, .unset] rfl ?_
  generalize hv7 : (if (u4 &&& (4 : Int32)) = (0 : Int32) then at0 else (at0 + (1 : Int32))) = v7
  obtain ⟨vs, hvs, h7⟩ : ∃ vs : Nat, (vs = pa ∨ vs = pa + 1) ∧ v7.toInt = vs := by
    rw [← hv7]; split
    · exact ⟨pa, Or.inl rfl, hat⟩
    · exact ⟨pa + 1, Or.inr rfl, own_add hat rfl (by omega) (by decide)⟩
  refine o_iloadN C X d1_84 85 rfl rfl ?_
  refine o_sipush C X d1_85 88 rfl (255 : Int32) (by decide) ?_
  refine o_iand C X d1_88 89 rfl ?_
  refine o_istore C X d1_89 91 rfl #[.val (.ref t), .val (.int at0), .val (.int kd), .val (.int u3), .val (.int u4), .val (.int (u4 &&& (3 : Int32))), .val (.int ws), .val (.int v7), .val (.int (u3 &&& (255 : Int32))), .unset, .unset] rfl ?_
  refine o_iloadN C X d1_91 92 rfl rfl ?_
  refine o_ldcI C X hZ hown (hw _ (List.mem_of_getElem? (i := 1) rfl)) d1_92 94 rfl ?_
  refine o_iand C X d1_94 95 rfl ?_
  refine o_istore C X d1_95 97 rfl #[.val (.ref t), .val (.int at0), .val (.int kd), .val (.int u3), .val (.int u4), .val (.int (u4 &&& (3 : Int32))), .val (.int ws), .val (.int v7), .val (.int (u3 &&& (255 : Int32))), .val (.int (u3 &&& (2147483647 : Int32))), .unset] rfl ?_
  refine o_iloadN C X d1_97 98 rfl rfl ?_
  by_cases k0 : kd = (0 : Int32)
  · skip
    refine o_ifN C X d1_98 101 rfl ((if0 _ _).trans (teq k0).2) ?_
    refine o_iload C X d1_101 103 rfl rfl ?_
    refine o_bipush C X d1_103 105 rfl (32 : Int32) (by decide) ?_
    refine Ends.via (T := T) (mkF m 130 #[.val (.ref t), .val (.int at0), .val (.int kd), .val (.int u3), .val (.int u4), .val (.int (u4 &&& (3 : Int32))), .val (.int ws), .val (.int v7), .val (.int (u3 &&& (255 : Int32))), .val (.int (u3 &&& (2147483647 : Int32))), .unset] [(.int (if (u3 &&& (255 : Int32)) < (32 : Int32) then (122 : Int32) else (if (u3 &&& (255 : Int32)) = (34 : Int32) then (122 : Int32) else (if (u3 &&& (255 : Int32)) = (92 : Int32) then (122 : Int32) else ((u3 &&& (255 : Int32)).toInt8.toInt32)))))]) (fun K0 => ?_) ?_
    · skip
      by_cases q17 : (u3 &&& (255 : Int32)) < (32 : Int32)
      · skip
        refine o_icmpY C X d1_105 122 (by decide) (by decide) (tlt q17).1 ?_
        refine o_bipush C X d1_122 124 rfl (122 : Int32) (by decide) ?_
        refine o_goto C X d1_124 130 (by decide) (by decide) ?_
        simp only [if_pos q17] at K0
        exact K0
      · skip
        refine o_icmpN C X d1_105 108 rfl (flt q17).1 ?_
        refine o_iload C X d1_108 110 rfl rfl ?_
        refine o_bipush C X d1_110 112 rfl (34 : Int32) (by decide) ?_
        by_cases q18 : (u3 &&& (255 : Int32)) = (34 : Int32)
        · skip
          refine o_icmpY C X d1_112 122 (by decide) (by decide) (teq q18).1 ?_
          refine o_bipush C X d1_122 124 rfl (122 : Int32) (by decide) ?_
          refine o_goto C X d1_124 130 (by decide) (by decide) ?_
          simp only [if_neg q17, if_pos q18] at K0
          exact K0
        · skip
          refine o_icmpN C X d1_112 115 rfl (feq q18).1 ?_
          refine o_iload C X d1_115 117 rfl rfl ?_
          refine o_bipush C X d1_117 119 rfl (92 : Int32) (by decide) ?_
          by_cases q19 : (u3 &&& (255 : Int32)) = (92 : Int32)
          · skip
            refine o_icmpN C X d1_119 122 rfl (teq q19).2 ?_
            refine o_bipush C X d1_122 124 rfl (122 : Int32) (by decide) ?_
            refine o_goto C X d1_124 130 (by decide) (by decide) ?_
            simp only [if_neg q17, if_neg q18, if_pos q19] at K0
            exact K0
          · skip
            refine o_icmpY C X d1_119 127 (by decide) (by decide) (feq q19).2 ?_
            refine o_iload C X d1_127 129 rfl rfl ?_
            refine o_i2b C X d1_129 130 rfl ?_
            simp only [if_neg q17, if_neg q18, if_neg q19] at K0
            exact K0
    refine o_istore C X d1_130 132 rfl #[.val (.ref t), .val (.int at0), .val (.int kd), .val (.int u3), .val (.int u4), .val (.int (u4 &&& (3 : Int32))), .val (.int ws), .val (.int v7), .val (.int (u3 &&& (255 : Int32))), .val (.int (u3 &&& (2147483647 : Int32))), .val (.int (if (u3 &&& (255 : Int32)) < (32 : Int32) then (122 : Int32) else (if (u3 &&& (255 : Int32)) = (34 : Int32) then (122 : Int32) else (if (u3 &&& (255 : Int32)) = (92 : Int32) then (122 : Int32) else ((u3 &&& (255 : Int32)).toInt8.toInt32)))))] rfl ?_
    generalize hbb : (if (u3 &&& (255 : Int32)) < (32 : Int32) then (122 : Int32) else (if (u3 &&& (255 : Int32)) = (34 : Int32) then (122 : Int32) else (if (u3 &&& (255 : Int32)) = (92 : Int32) then (122 : Int32) else ((u3 &&& (255 : Int32)).toInt8.toInt32)))) = bb
    have pb : nar .byte bb = bb ∧ ¬ bb = 34 ∧ ¬ FU bb < 32 ∧ ¬ bb = 92 := by
      rw [← hbb]
      split
      · decide
      · rename_i q1
        split
        · decide
        · rename_i q2
          split
          · decide
          · rename_i q3
            exact ⟨nar_i2b _, own_b u3 q1 q2 q3⟩
    refine o_aloadN C X d1_132 133 rfl rfl rfl ?_
    refine o_iload C X d1_133 135 rfl rfl ?_
    refine o_bipush C X d1_135 137 rfl (34 : Int32) (by decide) ?_
    refine o_bastore C X hZ e_4 At_4 (vs) h7 (by omega) d1_137 138 rfl N0 ge_t ?_
    intro T h_5 locs_5 X e_5 W_5 N0 At_5
    have K_5 := K_4.wr W_5 (Or.inl (by simp))
    refine o_aloadN C X d1_138 139 rfl rfl rfl ?_
    refine o_iload C X d1_139 141 rfl rfl ?_
    refine o_iconst C X d1_141 142 rfl (1 : Int32) (by decide) ?_
    refine o_iadd C X d1_142 143 rfl ?_
    refine o_iload C X d1_143 145 rfl rfl ?_
    refine o_bastore C X hZ e_5 At_5 (vs + 1) (own_add h7 rfl (by omega) (by decide)) (by omega) d1_145 146 rfl N0 ge_t ?_
    intro T h_6 locs_6 X e_6 W_6 N0 At_6
    have K_6 := K_5.wr W_6 (Or.inl (by simp))
    refine o_aloadN C X d1_146 147 rfl rfl rfl ?_
    refine o_iload C X d1_147 149 rfl rfl ?_
    refine o_iconst C X d1_149 150 rfl (2 : Int32) (by decide) ?_
    refine o_iadd C X d1_150 151 rfl ?_
    refine o_bipush C X d1_151 153 rfl (34 : Int32) (by decide) ?_
    refine o_bastore C X hZ e_6 At_6 (vs + 2) (own_add h7 rfl (by omega) (by decide)) (by omega) d1_153 154 rfl N0 ge_t ?_
    intro T h_7 locs_7 X e_7 W_7 N0 At_7
    have K_7 := K_6.wr W_7 (Or.inl (by simp))
    refine o_goto C X d1_154 286 (by decide) (by decide) ?_
    obtain ⟨g, hv0, hv1, hv2, hout, hlo, hhi, Ag⟩ : ∃ g : Nat → Int32, g vs = 34 ∧ g (vs + 1) = bb ∧ g (vs + 2) = 34 ∧ (∀ j, (j < pa ∨ pa + 4 ≤ j) → g j = f j) ∧ (∀ k, k < vs → pa ≤ k → ¬ FSp (g k) = 0) ∧ (∀ k, k < pa + 4 → vs + 3 ≤ k → ¬ FSp (g k) = 0) ∧ AI Z h_7 t .byte 19 g := by
      refine ⟨_, ?_, ?_, ?_, ?_, ?_, ?_, At_7⟩
      · (try dsimp only); simp (disch := omega) only [if_pos, if_neg, if_true, if_false]; exact (by decide)
      · (try dsimp only); simp (disch := omega) only [if_pos, if_neg, if_true, if_false]; exact pb.1
      · (try dsimp only); simp (disch := omega) only [if_pos, if_neg, if_true, if_false]; exact (by decide)
      · intro j hj; (try dsimp only); simp (disch := omega) only [if_neg]
      · intro k k1 k2; obtain rfl : k = pa := by omega
        (try dsimp only); simp (disch := omega) only [if_pos, if_neg, if_true, if_false]; exact psp
      · intro k k1 k2
        rcases (by omega : k = pa + 1 ∨ k = pa + 2 ∨ k = pa + 3) with rfl | rfl | rfl <;> first | (exfalso; omega) | ((try dsimp only); simp (disch := omega) only [if_pos, if_neg, if_true, if_false]; exact psp)
    exact o_ret C X hret hlk d1_286 (by subst e_7; exact ⟨g, vs, vs + 3, rfl, N0, K_7, Ag, hout, ⟨by omega, by omega, hlo, hhi, Or.inl ⟨vs + 2, ⟨by omega, by omega, hv0, hv2, fun m m1 m2 => by obtain rfl : m = vs + 1 := (by omega); rw [hv1]; exact pb.2⟩, rfl⟩⟩, ⟨fun _ => by rw [k0]; decide, fun _ => hv0⟩⟩) (Nat.le_refl _) (Nat.le_refl _)
  refine o_ifY C X d1_98 157 (by decide) (by decide) ((if0 _ _).trans (feq k0).2) ?_
  refine o_iloadN C X d1_157 158 rfl rfl ?_
  refine o_iconst C X d1_158 159 rfl (1 : Int32) (by decide) ?_
  by_cases k1 : kd = (1 : Int32)
  · skip
    refine o_icmpN C X d1_159 162 rfl (teq k1).2 ?_
    refine o_aloadN C X d1_162 163 rfl rfl rfl ?_
    refine o_iload C X d1_163 165 rfl rfl ?_
    refine o_bipush C X d1_165 167 rfl (34 : Int32) (by decide) ?_
    refine o_bastore C X hZ e_4 At_4 (vs) h7 (by omega) d1_167 168 rfl N0 ge_t ?_
    intro T h_5 locs_5 X e_5 W_5 N0 At_5
    have K_5 := K_4.wr W_5 (Or.inl (by simp))
    refine o_aloadN C X d1_168 169 rfl rfl rfl ?_
    refine o_iload C X d1_169 171 rfl rfl ?_
    refine o_iconst C X d1_171 172 rfl (1 : Int32) (by decide) ?_
    refine o_iadd C X d1_172 173 rfl ?_
    refine o_bipush C X d1_173 175 rfl (34 : Int32) (by decide) ?_
    refine o_bastore C X hZ e_5 At_5 (vs + 1) (own_add h7 rfl (by omega) (by decide)) (by omega) d1_175 176 rfl N0 ge_t ?_
    intro T h_6 locs_6 X e_6 W_6 N0 At_6
    have K_6 := K_5.wr W_6 (Or.inl (by simp))
    refine o_goto C X d1_176 286 (by decide) (by decide) ?_
    obtain ⟨g, hv0, hv1, hout, hlo, hhi, Ag⟩ : ∃ g : Nat → Int32, g vs = 34 ∧ g (vs + 1) = 34 ∧ (∀ j, (j < pa ∨ pa + 4 ≤ j) → g j = f j) ∧ (∀ k, k < vs → pa ≤ k → ¬ FSp (g k) = 0) ∧ (∀ k, k < pa + 4 → vs + 2 ≤ k → ¬ FSp (g k) = 0) ∧ AI Z h_6 t .byte 19 g := by
      refine ⟨_, ?_, ?_, ?_, ?_, ?_, At_6⟩
      · (try dsimp only); simp (disch := omega) only [if_pos, if_neg, if_true, if_false]; exact (by decide)
      · (try dsimp only); simp (disch := omega) only [if_pos, if_neg, if_true, if_false]; exact (by decide)
      · intro j hj; (try dsimp only); simp (disch := omega) only [if_neg]
      · intro k k1 k2; obtain rfl : k = pa := by omega
        (try dsimp only); simp (disch := omega) only [if_pos, if_neg, if_true, if_false]; exact psp
      · intro k k1 k2
        rcases (by omega : k = pa + 1 ∨ k = pa + 2 ∨ k = pa + 3) with rfl | rfl | rfl <;> first | (exfalso; omega) | ((try dsimp only); simp (disch := omega) only [if_pos, if_neg, if_true, if_false]; exact psp)
    exact o_ret C X hret hlk d1_286 (by subst e_6; exact ⟨g, vs, vs + 2, rfl, N0, K_6, Ag, hout, ⟨by omega, by omega, hlo, hhi, Or.inl ⟨vs + 1, ⟨by omega, by omega, hv0, hv1, fun m m1 m2 => by omega⟩, rfl⟩⟩, ⟨fun _ => by rw [k1]; decide, fun _ => hv0⟩⟩) (Nat.le_refl _) (Nat.le_refl _)
  refine o_icmpY C X d1_159 179 (by decide) (by decide) (feq k1).2 ?_
  refine o_iloadN C X d1_179 180 rfl rfl ?_
  refine o_iconst C X d1_180 181 rfl (2 : Int32) (by decide) ?_
  by_cases k2 : kd = (2 : Int32)
  · skip
    refine o_icmpN C X d1_181 184 rfl (teq k2).2 ?_
    obtain ⟨dz, z1, z2, z3⟩ := own_dig u3 (10 : Int32) 10 rfl (48 : Int32) 48 rfl (by decide) (by decide) (by decide) (by decide)
    have pd := own_num (x := ((48 : Int32) + (u3 &&& (2147483647 : Int32)) % (10 : Int32)).toInt8.toInt32) (by omega) (by omega)
    refine o_aloadN C X d1_184 185 rfl rfl rfl ?_
    refine o_iload C X d1_185 187 rfl rfl ?_
    refine o_bipush C X d1_187 189 rfl (48 : Int32) (by decide) ?_
    refine o_iload C X d1_189 191 rfl rfl ?_
    refine o_bipush C X d1_191 193 rfl (10 : Int32) (by decide) ?_
    refine o_irem C X d1_193 194 rfl (by decide) ?_
    refine o_iadd C X d1_194 195 rfl ?_
    refine o_i2b C X d1_195 196 rfl ?_
    refine o_bastore C X hZ e_4 At_4 (vs) h7 (by omega) d1_196 197 rfl N0 ge_t ?_
    intro T h_5 locs_5 X e_5 W_5 N0 At_5
    have K_5 := K_4.wr W_5 (Or.inl (by simp))
    refine o_goto C X d1_197 286 (by decide) (by decide) ?_
    obtain ⟨g, hv0, hout, hlo, hhi, Ag⟩ : ∃ g : Nat → Int32, g vs = ((48 : Int32) + (u3 &&& (2147483647 : Int32)) % (10 : Int32)).toInt8.toInt32 ∧ (∀ j, (j < pa ∨ pa + 4 ≤ j) → g j = f j) ∧ (∀ k, k < vs → pa ≤ k → ¬ FSp (g k) = 0) ∧ (∀ k, k < pa + 4 → vs + 1 ≤ k → ¬ FSp (g k) = 0) ∧ AI Z h_5 t .byte 19 g := by
      refine ⟨_, ?_, ?_, ?_, ?_, At_5⟩
      · (try dsimp only); simp (disch := omega) only [if_pos, if_neg, if_true, if_false]; exact nar_i2b _
      · intro j hj; (try dsimp only); simp (disch := omega) only [if_neg]
      · intro k k1 k2; obtain rfl : k = pa := by omega
        (try dsimp only); simp (disch := omega) only [if_pos, if_neg, if_true, if_false]; exact psp
      · intro k k1 k2
        rcases (by omega : k = pa + 1 ∨ k = pa + 2 ∨ k = pa + 3) with rfl | rfl | rfl <;> first | (exfalso; omega) | ((try dsimp only); simp (disch := omega) only [if_pos, if_neg, if_true, if_false]; exact psp)
    exact o_ret C X hret hlk d1_286 (by subst e_5; exact ⟨g, vs, vs + 1, rfl, N0, K_5, Ag, hout, ⟨by omega, by omega, hlo, hhi, Or.inr (Or.inr ⟨by omega, by omega, by rw [hv0]; exact pd.1.1, by rw [hv0]; exact pd.1.2.1, by rw [hv0]; exact pd.1.2.2, fun m m1 m2 => (by obtain rfl : m = vs := (by omega); rw [hv0]; exact pd.2.1), own_en (hhi _ (by omega) (Nat.le_refl _)), Or.inr (Or.inl (by rw [hv0]; exact pd.2.2))⟩)⟩, ⟨fun q => absurd (hv0.symm.trans q) pd.1.1, fun q => absurd (by rw [k2]; decide) q⟩⟩) (Nat.le_refl _) (Nat.le_refl _)
  refine o_icmpY C X d1_181 200 (by decide) (by decide) (feq k2).2 ?_
  refine o_iloadN C X d1_200 201 rfl rfl ?_
  refine o_iconst C X d1_201 202 rfl (3 : Int32) (by decide) ?_
  by_cases k3 : kd = (3 : Int32)
  · skip
    refine o_icmpN C X d1_202 205 rfl (teq k3).2 ?_
    obtain ⟨dz, z1, z2, z3⟩ := own_dig u3 (10 : Int32) 10 rfl (48 : Int32) 48 rfl (by decide) (by decide) (by decide) (by decide)
    have pd := own_num (x := ((48 : Int32) + (u3 &&& (2147483647 : Int32)) % (10 : Int32)).toInt8.toInt32) (by omega) (by omega)
    refine o_aloadN C X d1_205 206 rfl rfl rfl ?_
    refine o_iload C X d1_206 208 rfl rfl ?_
    refine o_bipush C X d1_208 210 rfl (45 : Int32) (by decide) ?_
    refine o_bastore C X hZ e_4 At_4 (vs) h7 (by omega) d1_210 211 rfl N0 ge_t ?_
    intro T h_5 locs_5 X e_5 W_5 N0 At_5
    have K_5 := K_4.wr W_5 (Or.inl (by simp))
    refine o_aloadN C X d1_211 212 rfl rfl rfl ?_
    refine o_iload C X d1_212 214 rfl rfl ?_
    refine o_iconst C X d1_214 215 rfl (1 : Int32) (by decide) ?_
    refine o_iadd C X d1_215 216 rfl ?_
    refine o_bipush C X d1_216 218 rfl (48 : Int32) (by decide) ?_
    refine o_iload C X d1_218 220 rfl rfl ?_
    refine o_bipush C X d1_220 222 rfl (10 : Int32) (by decide) ?_
    refine o_irem C X d1_222 223 rfl (by decide) ?_
    refine o_iadd C X d1_223 224 rfl ?_
    refine o_i2b C X d1_224 225 rfl ?_
    refine o_bastore C X hZ e_5 At_5 (vs + 1) (own_add h7 rfl (by omega) (by decide)) (by omega) d1_225 226 rfl N0 ge_t ?_
    intro T h_6 locs_6 X e_6 W_6 N0 At_6
    have K_6 := K_5.wr W_6 (Or.inl (by simp))
    refine o_goto C X d1_226 286 (by decide) (by decide) ?_
    obtain ⟨g, hv0, hv1, hout, hlo, hhi, Ag⟩ : ∃ g : Nat → Int32, g vs = 45 ∧ g (vs + 1) = ((48 : Int32) + (u3 &&& (2147483647 : Int32)) % (10 : Int32)).toInt8.toInt32 ∧ (∀ j, (j < pa ∨ pa + 4 ≤ j) → g j = f j) ∧ (∀ k, k < vs → pa ≤ k → ¬ FSp (g k) = 0) ∧ (∀ k, k < pa + 4 → vs + 2 ≤ k → ¬ FSp (g k) = 0) ∧ AI Z h_6 t .byte 19 g := by
      refine ⟨_, ?_, ?_, ?_, ?_, ?_, At_6⟩
      · (try dsimp only); simp (disch := omega) only [if_pos, if_neg, if_true, if_false]; exact (by decide)
      · (try dsimp only); simp (disch := omega) only [if_pos, if_neg, if_true, if_false]; exact nar_i2b _
      · intro j hj; (try dsimp only); simp (disch := omega) only [if_neg]
      · intro k k1 k2; obtain rfl : k = pa := by omega
        (try dsimp only); simp (disch := omega) only [if_pos, if_neg, if_true, if_false]; exact psp
      · intro k k1 k2
        rcases (by omega : k = pa + 1 ∨ k = pa + 2 ∨ k = pa + 3) with rfl | rfl | rfl <;> first | (exfalso; omega) | ((try dsimp only); simp (disch := omega) only [if_pos, if_neg, if_true, if_false]; exact psp)
    exact o_ret C X hret hlk d1_286 (by subst e_6; exact ⟨g, vs, vs + 2, rfl, N0, K_6, Ag, hout, ⟨by omega, by omega, hlo, hhi, Or.inr (Or.inr ⟨by omega, by omega, by rw [hv0]; decide, by rw [hv0]; decide, by rw [hv0]; decide, fun m m1 m2 => (by rcases (by omega : m = vs ∨ m = vs + 1) with rfl | rfl; (rw [hv0]; decide); (rw [hv1]; exact pd.2.1)), own_en (hhi _ (by omega) (Nat.le_refl _)), Or.inl hv0⟩)⟩, ⟨fun q => absurd (hv0.symm.trans q) (by decide), fun q => absurd (by rw [k3]; decide) q⟩⟩) (Nat.le_refl _) (Nat.le_refl _)
  refine o_icmpY C X d1_202 229 (by decide) (by decide) (feq k3).2 ?_
  refine o_iloadN C X d1_229 230 rfl rfl ?_
  refine o_iconst C X d1_230 231 rfl (4 : Int32) (by decide) ?_
  by_cases k4 : kd = (4 : Int32)
  · skip
    refine o_icmpN C X d1_231 234 rfl (teq k4).2 ?_
    obtain ⟨dz, z1, z2, z3⟩ := own_dig u3 (26 : Int32) 26 rfl (97 : Int32) 97 rfl (by decide) (by decide) (by decide) (by decide)
    have pd := own_let (x := ((97 : Int32) + (u3 &&& (2147483647 : Int32)) % (26 : Int32)).toInt8.toInt32) (by omega) (by omega)
    refine o_aloadN C X d1_234 235 rfl rfl rfl ?_
    refine o_iload C X d1_235 237 rfl rfl ?_
    refine o_bipush C X d1_237 239 rfl (97 : Int32) (by decide) ?_
    refine o_iload C X d1_239 241 rfl rfl ?_
    refine o_bipush C X d1_241 243 rfl (26 : Int32) (by decide) ?_
    refine o_irem C X d1_243 244 rfl (by decide) ?_
    refine o_iadd C X d1_244 245 rfl ?_
    refine o_i2b C X d1_245 246 rfl ?_
    refine o_bastore C X hZ e_4 At_4 (vs) h7 (by omega) d1_246 247 rfl N0 ge_t ?_
    intro T h_5 locs_5 X e_5 W_5 N0 At_5
    have K_5 := K_4.wr W_5 (Or.inl (by simp))
    refine o_goto C X d1_247 286 (by decide) (by decide) ?_
    obtain ⟨g, hv0, hout, hlo, hhi, Ag⟩ : ∃ g : Nat → Int32, g vs = ((97 : Int32) + (u3 &&& (2147483647 : Int32)) % (26 : Int32)).toInt8.toInt32 ∧ (∀ j, (j < pa ∨ pa + 4 ≤ j) → g j = f j) ∧ (∀ k, k < vs → pa ≤ k → ¬ FSp (g k) = 0) ∧ (∀ k, k < pa + 4 → vs + 1 ≤ k → ¬ FSp (g k) = 0) ∧ AI Z h_5 t .byte 19 g := by
      refine ⟨_, ?_, ?_, ?_, ?_, At_5⟩
      · (try dsimp only); simp (disch := omega) only [if_pos, if_neg, if_true, if_false]; exact nar_i2b _
      · intro j hj; (try dsimp only); simp (disch := omega) only [if_neg]
      · intro k k1 k2; obtain rfl : k = pa := by omega
        (try dsimp only); simp (disch := omega) only [if_pos, if_neg, if_true, if_false]; exact psp
      · intro k k1 k2
        rcases (by omega : k = pa + 1 ∨ k = pa + 2 ∨ k = pa + 3) with rfl | rfl | rfl <;> first | (exfalso; omega) | ((try dsimp only); simp (disch := omega) only [if_pos, if_neg, if_true, if_false]; exact psp)
    exact o_ret C X hret hlk d1_286 (by subst e_5; exact ⟨g, vs, vs + 1, rfl, N0, K_5, Ag, hout, ⟨by omega, by omega, hlo, hhi, Or.inr (Or.inr ⟨by omega, by omega, by rw [hv0]; exact pd.1.1, by rw [hv0]; exact pd.1.2.1, by rw [hv0]; exact pd.1.2.2, fun m m1 m2 => (by obtain rfl : m = vs := (by omega); rw [hv0]; exact pd.2.1), own_en (hhi _ (by omega) (Nat.le_refl _)), Or.inr (Or.inr (by rw [hv0]; exact pd.2.2))⟩)⟩, ⟨fun q => absurd (hv0.symm.trans q) pd.1.1, fun q => absurd (by rw [k4]; decide) q⟩⟩) (Nat.le_refl _) (Nat.le_refl _)
  refine o_icmpY C X d1_231 250 (by decide) (by decide) (feq k4).2 ?_
  refine o_iloadN C X d1_250 251 rfl rfl ?_
  refine o_iconst C X d1_251 252 rfl (5 : Int32) (by decide) ?_
  by_cases k5 : kd = (5 : Int32)
  · skip
    refine o_icmpN C X d1_252 255 rfl (teq k5).2 ?_
    refine o_aloadN C X d1_255 256 rfl rfl rfl ?_
    refine o_iload C X d1_256 258 rfl rfl ?_
    refine o_bipush C X d1_258 260 rfl (123 : Int32) (by decide) ?_
    refine o_bastore C X hZ e_4 At_4 (vs) h7 (by omega) d1_260 261 rfl N0 ge_t ?_
    intro T h_5 locs_5 X e_5 W_5 N0 At_5
    have K_5 := K_4.wr W_5 (Or.inl (by simp))
    refine o_aloadN C X d1_261 262 rfl rfl rfl ?_
    refine o_iload C X d1_262 264 rfl rfl ?_
    refine o_iconst C X d1_264 265 rfl (1 : Int32) (by decide) ?_
    refine o_iadd C X d1_265 266 rfl ?_
    refine o_bipush C X d1_266 268 rfl (125 : Int32) (by decide) ?_
    refine o_bastore C X hZ e_5 At_5 (vs + 1) (own_add h7 rfl (by omega) (by decide)) (by omega) d1_268 269 rfl N0 ge_t ?_
    intro T h_6 locs_6 X e_6 W_6 N0 At_6
    have K_6 := K_5.wr W_6 (Or.inl (by simp))
    refine o_goto C X d1_269 286 (by decide) (by decide) ?_
    obtain ⟨g, hv0, hv1, hout, hlo, hhi, Ag⟩ : ∃ g : Nat → Int32, g vs = 123 ∧ g (vs + 1) = 125 ∧ (∀ j, (j < pa ∨ pa + 4 ≤ j) → g j = f j) ∧ (∀ k, k < vs → pa ≤ k → ¬ FSp (g k) = 0) ∧ (∀ k, k < pa + 4 → vs + 2 ≤ k → ¬ FSp (g k) = 0) ∧ AI Z h_6 t .byte 19 g := by
      refine ⟨_, ?_, ?_, ?_, ?_, ?_, At_6⟩
      · (try dsimp only); simp (disch := omega) only [if_pos, if_neg, if_true, if_false]; exact (by decide)
      · (try dsimp only); simp (disch := omega) only [if_pos, if_neg, if_true, if_false]; exact (by decide)
      · intro j hj; (try dsimp only); simp (disch := omega) only [if_neg]
      · intro k k1 k2; obtain rfl : k = pa := by omega
        (try dsimp only); simp (disch := omega) only [if_pos, if_neg, if_true, if_false]; exact psp
      · intro k k1 k2
        rcases (by omega : k = pa + 1 ∨ k = pa + 2 ∨ k = pa + 3) with rfl | rfl | rfl <;> first | (exfalso; omega) | ((try dsimp only); simp (disch := omega) only [if_pos, if_neg, if_true, if_false]; exact psp)
    exact o_ret C X hret hlk d1_286 (by subst e_6; exact ⟨g, vs, vs + 2, rfl, N0, K_6, Ag, hout, ⟨by omega, by omega, hlo, hhi, Or.inr (Or.inl ⟨by omega, Or.inl ⟨hv0, hv1⟩, rfl⟩)⟩, ⟨fun q => absurd (hv0.symm.trans q) (by decide), fun q => absurd (by rw [k5]; decide) q⟩⟩) (Nat.le_refl _) (Nat.le_refl _)
  refine o_icmpY C X d1_252 272 (by decide) (by decide) (feq k5).2 ?_
  refine o_aloadN C X d1_272 273 rfl rfl rfl ?_
  refine o_iload C X d1_273 275 rfl rfl ?_
  refine o_bipush C X d1_275 277 rfl (91 : Int32) (by decide) ?_
  refine o_bastore C X hZ e_4 At_4 (vs) h7 (by omega) d1_277 278 rfl N0 ge_t ?_
  intro T h_5 locs_5 X e_5 W_5 N0 At_5
  have K_5 := K_4.wr W_5 (Or.inl (by simp))
  refine o_aloadN C X d1_278 279 rfl rfl rfl ?_
  refine o_iload C X d1_279 281 rfl rfl ?_
  refine o_iconst C X d1_281 282 rfl (1 : Int32) (by decide) ?_
  refine o_iadd C X d1_282 283 rfl ?_
  refine o_bipush C X d1_283 285 rfl (93 : Int32) (by decide) ?_
  refine o_bastore C X hZ e_5 At_5 (vs + 1) (own_add h7 rfl (by omega) (by decide)) (by omega) d1_285 286 rfl N0 ge_t ?_
  intro T h_6 locs_6 X e_6 W_6 N0 At_6
  have K_6 := K_5.wr W_6 (Or.inl (by simp))
  obtain ⟨g, hv0, hv1, hout, hlo, hhi, Ag⟩ : ∃ g : Nat → Int32, g vs = 91 ∧ g (vs + 1) = 93 ∧ (∀ j, (j < pa ∨ pa + 4 ≤ j) → g j = f j) ∧ (∀ k, k < vs → pa ≤ k → ¬ FSp (g k) = 0) ∧ (∀ k, k < pa + 4 → vs + 2 ≤ k → ¬ FSp (g k) = 0) ∧ AI Z h_6 t .byte 19 g := by
    refine ⟨_, ?_, ?_, ?_, ?_, ?_, At_6⟩
    · (try dsimp only); simp (disch := omega) only [if_pos, if_neg, if_true, if_false]; exact (by decide)
    · (try dsimp only); simp (disch := omega) only [if_pos, if_neg, if_true, if_false]; exact (by decide)
    · intro j hj; (try dsimp only); simp (disch := omega) only [if_neg]
    · intro k k1 k2; obtain rfl : k = pa := by omega
      (try dsimp only); simp (disch := omega) only [if_pos, if_neg, if_true, if_false]; exact psp
    · intro k k1 k2
      rcases (by omega : k = pa + 1 ∨ k = pa + 2 ∨ k = pa + 3) with rfl | rfl | rfl <;> first | (exfalso; omega) | ((try dsimp only); simp (disch := omega) only [if_pos, if_neg, if_true, if_false]; exact psp)
  exact o_ret C X hret hlk d1_286 (by subst e_6; exact ⟨g, vs, vs + 2, rfl, N0, K_6, Ag, hout, ⟨by omega, by omega, hlo, hhi, Or.inr (Or.inl ⟨by omega, Or.inr ⟨hv0, hv1⟩, rfl⟩)⟩, ⟨fun q => absurd (hv0.symm.trans q) (by decide), fun q => absurd (by have e0 := i_eq kd 0 0 rfl; have e1 := i_eq kd 1 1 rfl; rw [e0] at k0; rw [e1] at k1; rw [Int32.lt_iff_toInt_lt, show (1 : Int32).toInt = 1 from rfl]; omega) q⟩⟩) (Nat.le_refl _) (Nat.le_refl _)
theorem pd_4 : parseMethodDescriptor "([BIIII)V" = some ⟨[(.array .byte), .int, .int, .int, .int], none⟩ := by decide +kernel
theorem pd_5 : parseMethodDescriptor "([B)V" = some ⟨[(.array .byte)], none⟩ := by decide +kernel
theorem pd_6 : parseMethodDescriptor "()Z" = some ⟨[], some .boolean⟩ := by decide +kernel
theorem own_kind (x : Int32) : 0 ≤ ((x &&& (2147483647 : Int32)) % (7 : Int32)).toInt ∧ ((x &&& (2147483647 : Int32)) % (7 : Int32)).toInt ≤ 6 := by
  have hn := c_mask x 2147483647 31 (by decide) (by decide)
  have hr := (c_irem (x &&& 2147483647) 7 7 rfl).1 (by omega)
  omega
theorem own_fs {f : Nat → Int32} {i : Nat} {kd : Int32} (h : f i = 34 ↔ ¬ 1 < kd) : FS f i = if (1 : Int32) < kd then (0 : Int32) else (1 : Int32) := by
  unfold FS
  by_cases q : (1 : Int32) < kd
  · rw [if_pos q, if_neg (fun r => (h.mp r) q)]
  · rw [if_neg q, if_pos (h.mpr q)]
theorem pn_0 : plainFor x = true := by first | exact plainFor_of_name (by first | (simp [plainName, overriddenIn]; done) | decide +kernel) | decide +kernel
theorem ef_0 (m : MethodId) (x0 : Int32) (x1 : Int32) (x2 : Int32) (x3 : Int32) (x4 : Int32) (x5 : Int32) : entryFrame m #[(.int x0), (.int x1), (.int x2), (.int x3), (.int x4), (.int x5)] maxLocals = (mkF m 0 #[.val (.int x0), .val (.int x1), .val (.int x2), .val (.int x3), .val (.int x4), .val (.int x5), .unset, .unset, .unset, .unset, .unset, .unset, .unset, .unset, .unset] []) := by first | (simp [entryFrame, mkF, argsToLocals, Value.category, maxLocals]; done) | rfl
set_option maxRecDepth 65536 in
set_option maxHeartbeats 40000000 in
theorem rm0 (l : Launch) (Z : State) (a0 : Array Value) (hw : ∀ d ∈ tables_1, d.before a0 Z = true) (x0 : Int32) (x1 : Int32) (x2 : Int32) (x3 : Int32) (x4 : Int32) (x5 : Int32) (h0 : Heap) (n0 : Nat) (Z0 : n0 ≤ h0.size) : Con l Z x code maxLocals ret room_1 16 128 tables_1 #[(.int x0), (.int x1), (.int x2), (.int x3), (.int x4), (.int x5)] h0 (fun v _ L => v = some (.int 1) ∧ Fr n0 L) := by
  refine Con.of pn_0 ?_
  intro p e s m below meth c T C hZ hml hown hret hnm hlk X e0
  have N0 := Fr.nil n0
  rw [ef_0]
  refine o_bipush C X at_0 2 rfl (19 : Int32) (by decide) ?_
  refine o_newarrayB C X hZ (hw _ (List.mem_of_getElem? (i := 0) rfl)) e0 (19) (by decide) (19) (by decide) (by decide) (by decide) (by decide) at_2 4 rfl ?_
  intro T h_1 t g_t X e_1 E_1 At_1
  have ge_t : n0 ≤ t := by rw [g_t]; exact Z0
  have Z_1 : n0 ≤ h_1.size := Nat.le_trans Z0 E_1.1
  refine o_astore C X at_4 6 rfl rfl #[.val (.int x0), .val (.int x1), .val (.int x2), .val (.int x3), .val (.int x4), .val (.int x5), .val (.ref t), .unset, .unset, .unset, .unset, .unset, .unset, .unset, .unset] rfl ?_
  refine o_aload C X at_6 8 rfl rfl rfl ?_
  refine o_iconst C X at_8 9 rfl (0 : Int32) (by decide) ?_
  refine o_bipush C X at_9 11 rfl (123 : Int32) (by decide) ?_
  refine o_bastore C X hZ e_1 At_1 (0) (by decide) (by decide) at_11 12 rfl N0 ge_t ?_
  intro T h_2 locs_2 X e_2 W_2 N0 At_2
  have Z_2 : n0 ≤ h_2.size := by rw [W_2.size]; exact Z_1
  refine o_aload C X at_12 14 rfl rfl rfl ?_
  refine o_iconst C X at_14 15 rfl (1 : Int32) (by decide) ?_
  refine o_bipush C X at_15 17 rfl (34 : Int32) (by decide) ?_
  refine o_bastore C X hZ e_2 At_2 (1) (by decide) (by decide) at_17 18 rfl N0 ge_t ?_
  intro T h_3 locs_3 X e_3 W_3 N0 At_3
  have Z_3 : n0 ≤ h_3.size := by rw [W_3.size]; exact Z_2
  refine o_aload C X at_18 20 rfl rfl rfl ?_
  refine o_iconst C X at_20 21 rfl (2 : Int32) (by decide) ?_
  refine o_bipush C X at_21 23 rfl (97 : Int32) (by decide) ?_
  refine o_bastore C X hZ e_3 At_3 (2) (by decide) (by decide) at_23 24 rfl N0 ge_t ?_
  intro T h_4 locs_4 X e_4 W_4 N0 At_4
  have Z_4 : n0 ≤ h_4.size := by rw [W_4.size]; exact Z_3
  refine o_aload C X at_24 26 rfl rfl rfl ?_
  refine o_iconst C X at_26 27 rfl (3 : Int32) (by decide) ?_
  refine o_bipush C X at_27 29 rfl (34 : Int32) (by decide) ?_
  refine o_bastore C X hZ e_4 At_4 (3) (by decide) (by decide) at_29 30 rfl N0 ge_t ?_
  intro T h_5 locs_5 X e_5 W_5 N0 At_5
  have Z_5 : n0 ≤ h_5.size := by rw [W_5.size]; exact Z_4
  refine o_aload C X at_30 32 rfl rfl rfl ?_
  refine o_iconst C X at_32 33 rfl (4 : Int32) (by decide) ?_
  refine o_bipush C X at_33 35 rfl (58 : Int32) (by decide) ?_
  refine o_bastore C X hZ e_5 At_5 (4) (by decide) (by decide) at_35 36 rfl N0 ge_t ?_
  intro T h_6 locs_6 X e_6 W_6 N0 At_6
  have Z_6 : n0 ≤ h_6.size := by rw [W_6.size]; exact Z_5
  refine o_iloadN C X at_36 37 rfl rfl ?_
  refine o_ldcI C X hZ hown (hw _ (List.mem_of_getElem? (i := 1) rfl)) at_37 39 rfl ?_
  refine o_iand C X at_39 40 rfl ?_
  refine o_bipush C X at_40 42 rfl (7 : Int32) (by decide) ?_
  refine o_irem C X at_42 43 rfl (by decide) ?_
  refine o_istore C X at_43 45 rfl #[.val (.int x0), .val (.int x1), .val (.int x2), .val (.int x3), .val (.int x4), .val (.int x5), .val (.ref t), .val (.int ((x0 &&& (2147483647 : Int32)) % (7 : Int32))), .unset, .unset, .unset, .unset, .unset, .unset, .unset] rfl ?_
  refine o_iloadN C X at_45 46 rfl rfl ?_
  refine o_ldcI C X hZ hown (hw _ (List.mem_of_getElem? (i := 1) rfl)) at_46 48 rfl ?_
  refine o_iand C X at_48 49 rfl ?_
  refine o_bipush C X at_49 51 rfl (7 : Int32) (by decide) ?_
  refine o_irem C X at_51 52 rfl (by decide) ?_
  refine o_istore C X at_52 54 rfl #[.val (.int x0), .val (.int x1), .val (.int x2), .val (.int x3), .val (.int x4), .val (.int x5), .val (.ref t), .val (.int ((x0 &&& (2147483647 : Int32)) % (7 : Int32))), .val (.int ((x3 &&& (2147483647 : Int32)) % (7 : Int32))), .unset, .unset, .unset, .unset, .unset, .unset] rfl ?_
  refine o_aload C X at_54 56 rfl rfl rfl ?_
  refine o_iconst C X at_56 57 rfl (5 : Int32) (by decide) ?_
  refine o_iload C X at_57 59 rfl rfl ?_
  refine o_iloadN C X at_59 60 rfl rfl ?_
  refine o_iloadN C X at_60 61 rfl rfl ?_
  obtain ⟨fa, hfa_0, hfa_1, hfa_2, hfa_3, hfa_4, At_7⟩ : ∃ f : Nat → Int32, (f 0 = 123) ∧ (f 1 = 34) ∧ (f 2 = 97) ∧ (f 3 = 34) ∧ (f 4 = 58) ∧ AI Z h_6 t .byte 19 f := by
    refine ⟨_, ?_, ?_, ?_, ?_, ?_, At_6⟩
    · rw [if_neg (by decide), if_neg (by decide), if_neg (by decide), if_neg (by decide), if_pos rfl]; decide
    · rw [if_neg (by decide), if_neg (by decide), if_neg (by decide), if_pos rfl]; decide
    · rw [if_neg (by decide), if_neg (by decide), if_pos rfl]; decide
    · rw [if_neg (by decide), if_pos rfl]; decide
    · rw [if_pos rfl]; decide
  have q1 := own_kind x0
  have q2 := own_kind x3
  generalize hkd1 : ((x0 &&& (2147483647 : Int32)) % (7 : Int32)) = kd1
  generalize hkd2 : ((x3 &&& (2147483647 : Int32)) % (7 : Int32)) = kd2
  rw [hkd1] at q1
  rw [hkd2] at q2
  refine o_callS C X hZ (by rw [hml]; rfl) (own := "com/example/one_lookup/onelookup/json/JsonMembersIsStringPinLaw") (y := (⟨"com/example/one_lookup/onelookup/json/JsonMembersIsStringPinLaw", "fill", "([BIIII)V"⟩ : MethodName)) hown (hw _ (List.mem_of_getElem? (i := 2) rfl)) (hw _ (List.mem_of_getElem? (i := 3) rfl)) (hw _ (List.mem_of_getElem? (i := 4) rfl)) (hw _ (List.mem_of_getElem? (i := 5) rfl)) (by decide) (asL := [(.ref t), (.int (5 : Int32)), (.int kd1), (.int x1), (.int x2)]) (rm1 l Z a0 hw t (5 : Int32) kd1 x1 x2 fa h_6 5 n0 ge_t (by decide) (by decide) q1 At_7) e_6 pd_4 rfl rfl 0 (Nat.le_of_eq rfl) (by decide) (by decide) (by decide) (by decide) at_61 64 rfl ?_
  rintro T h_8 _ L_8 X e_8 ⟨g1, vs1, en1, rfl, N_8, K_8, A_8, ho1, R1, iff1⟩
  have N0 := Fr.app N0 N_8
  have Z_8 : n0 ≤ h_8.size := Nat.le_trans Z_6 K_8.1
  refine o_aload C X at_64 66 rfl rfl rfl ?_
  refine o_bipush C X at_66 68 rfl (9 : Int32) (by decide) ?_
  refine o_bipush C X at_68 70 rfl (44 : Int32) (by decide) ?_
  refine o_bastore C X hZ e_8 A_8 (9) (by decide) (by decide) at_70 71 rfl N0 ge_t ?_
  intro T h_9 locs_9 X e_9 W_9 N0 At_9
  have Z_9 : n0 ≤ h_9.size := by rw [W_9.size]; exact Z_8
  refine o_aload C X at_71 73 rfl rfl rfl ?_
  refine o_bipush C X at_73 75 rfl (10 : Int32) (by decide) ?_
  refine o_bipush C X at_75 77 rfl (34 : Int32) (by decide) ?_
  refine o_bastore C X hZ e_9 At_9 (10) (by decide) (by decide) at_77 78 rfl N0 ge_t ?_
  intro T h_10 locs_10 X e_10 W_10 N0 At_10
  have Z_10 : n0 ≤ h_10.size := by rw [W_10.size]; exact Z_9
  refine o_aload C X at_78 80 rfl rfl rfl ?_
  refine o_bipush C X at_80 82 rfl (11 : Int32) (by decide) ?_
  refine o_bipush C X at_82 84 rfl (98 : Int32) (by decide) ?_
  refine o_bastore C X hZ e_10 At_10 (11) (by decide) (by decide) at_84 85 rfl N0 ge_t ?_
  intro T h_11 locs_11 X e_11 W_11 N0 At_11
  have Z_11 : n0 ≤ h_11.size := by rw [W_11.size]; exact Z_10
  refine o_aload C X at_85 87 rfl rfl rfl ?_
  refine o_bipush C X at_87 89 rfl (12 : Int32) (by decide) ?_
  refine o_bipush C X at_89 91 rfl (34 : Int32) (by decide) ?_
  refine o_bastore C X hZ e_11 At_11 (12) (by decide) (by decide) at_91 92 rfl N0 ge_t ?_
  intro T h_12 locs_12 X e_12 W_12 N0 At_12
  have Z_12 : n0 ≤ h_12.size := by rw [W_12.size]; exact Z_11
  refine o_aload C X at_92 94 rfl rfl rfl ?_
  refine o_bipush C X at_94 96 rfl (13 : Int32) (by decide) ?_
  refine o_bipush C X at_96 98 rfl (58 : Int32) (by decide) ?_
  refine o_bastore C X hZ e_12 At_12 (13) (by decide) (by decide) at_98 99 rfl N0 ge_t ?_
  intro T h_13 locs_13 X e_13 W_13 N0 At_13
  have Z_13 : n0 ≤ h_13.size := by rw [W_13.size]; exact Z_12
  refine o_aload C X at_99 101 rfl rfl rfl ?_
  refine o_bipush C X at_101 103 rfl (14 : Int32) (by decide) ?_
  refine o_iload C X at_103 105 rfl rfl ?_
  refine o_iload C X at_105 107 rfl rfl ?_
  refine o_iload C X at_107 109 rfl rfl ?_
  obtain ⟨fb, hfb_0, hfb_1, hfb_2, hfb_3, hfb_4, hfb_5, At_14⟩ : ∃ f : Nat → Int32, (∀ j, j < 9 → f j = g1 j) ∧ (f 9 = 44) ∧ (f 10 = 34) ∧ (f 11 = 98) ∧ (f 12 = 34) ∧ (f 13 = 58) ∧ AI Z h_13 t .byte 19 f := by
    refine ⟨_, ?_, ?_, ?_, ?_, ?_, ?_, At_13⟩
    · intro j hj; (try dsimp only); simp (disch := omega) only [if_neg]
    · rw [if_neg (by decide), if_neg (by decide), if_neg (by decide), if_neg (by decide), if_pos rfl]; decide
    · rw [if_neg (by decide), if_neg (by decide), if_neg (by decide), if_pos rfl]; decide
    · rw [if_neg (by decide), if_neg (by decide), if_pos rfl]; decide
    · rw [if_neg (by decide), if_pos rfl]; decide
    · rw [if_pos rfl]; decide
  refine o_callS C X hZ (by rw [hml]; rfl) (own := "com/example/one_lookup/onelookup/json/JsonMembersIsStringPinLaw") (y := (⟨"com/example/one_lookup/onelookup/json/JsonMembersIsStringPinLaw", "fill", "([BIIII)V"⟩ : MethodName)) hown (hw _ (List.mem_of_getElem? (i := 2) rfl)) (hw _ (List.mem_of_getElem? (i := 3) rfl)) (hw _ (List.mem_of_getElem? (i := 4) rfl)) (hw _ (List.mem_of_getElem? (i := 5) rfl)) (by decide) (asL := [(.ref t), (.int (14 : Int32)), (.int kd2), (.int x4), (.int x5)]) (rm1 l Z a0 hw t (14 : Int32) kd2 x4 x5 fb h_13 14 n0 ge_t (by decide) (by decide) q2 At_14) e_13 pd_4 rfl rfl 0 (Nat.le_of_eq rfl) (by decide) (by decide) (by decide) (by decide) at_109 112 rfl ?_
  rintro T h_15 _ L_15 X e_15 ⟨g2, vs2, en2, rfl, N_15, K_15, A_15, ho2, R2, iff2⟩
  have N0 := Fr.app N0 N_15
  have Z_15 : n0 ≤ h_15.size := Nat.le_trans Z_13 K_15.1
  refine o_aload C X at_112 114 rfl rfl rfl ?_
  refine o_bipush C X at_114 116 rfl (18 : Int32) (by decide) ?_
  refine o_bipush C X at_116 118 rfl (125 : Int32) (by decide) ?_
  refine o_bastore C X hZ e_15 A_15 (18) (by decide) (by decide) at_118 119 rfl N0 ge_t ?_
  intro T h_16 locs_16 X e_16 W_16 N0 At_16
  have Z_16 : n0 ≤ h_16.size := by rw [W_16.size]; exact Z_15
  obtain ⟨fc, hfc_0, hfc_1, At_17⟩ : ∃ f : Nat → Int32, (∀ j, j < 18 → f j = g2 j) ∧ (f 18 = 125) ∧ AI Z h_16 t .byte 19 f := by
    refine ⟨_, ?_, ?_, At_16⟩
    · intro j hj; (try dsimp only); simp (disch := omega) only [if_neg]
    · rw [if_pos rfl]; decide
  obtain ⟨r1, r2, r3, r4, r5⟩ := R1
  obtain ⟨s1, s2, s3, s4, s5⟩ := R2
  have e1 : ∀ j, j < 9 → fc j = g1 j := fun j hj => by rw [hfc_0 j (by omega), ho2 j (Or.inl (by omega)), hfb_0 j hj]
  have e2 : ∀ j, 9 ≤ j → j < 14 → fc j = fb j := fun j h1 h2 => by rw [hfc_0 j (by omega), ho2 j (Or.inl h2)]
  have e0 : ∀ j, j < 5 → fc j = fa j := fun j hj => by rw [e1 j (by omega), ho1 j (Or.inl hj)]
  have V1 : VAL fc 19 vs1 en1 := r5.congr (by decide) fun j h1 h2 => e1 j h2
  have V2 : VAL fc 19 vs2 en2 := s5.congr (by decide) fun j h1 h2 => hfc_0 j h2
  have b1 := own_v19 V1
  have b2 := own_v19 V2
  have S1 : STR fc 19 1 3 := ⟨by decide, by decide, by rw [e0 1 (by decide)]; exact hfa_1, by rw [e0 3 (by decide)]; exact hfa_3, fun m m1 m2 => by
    obtain rfl : m = 2 := by omega
    rw [e0 2 (by decide), hfa_2]; decide⟩
  have S2 : STR fc 19 10 12 := ⟨by decide, by decide, by rw [e2 10 (by decide) (by decide)]; exact hfb_2, by rw [e2 12 (by decide) (by decide)]; exact hfb_4, fun m m1 m2 => by
    obtain rfl : m = 11 := by omega
    rw [e2 11 (by decide) (by decide), hfb_3]; decide⟩
  refine o_new C X hZ hown (hw _ (List.mem_of_getElem? (i := 6) rfl)) (hw _ (List.mem_of_getElem? (i := 7) rfl)) (hw _ (List.mem_of_getElem? (i := 8) rfl)) e_16 at_119 (by decide) (by decide) 122 rfl ?_
  intro T h_18 a g_a X e_18 E_18 A_18 D_18
  have ne_t_a : t ≠ a := by rw [g_a]; exact Nat.ne_of_lt At_17.lt
  have ge_a : n0 ≤ a := by rw [g_a]; exact Z_16
  have Z_18 : n0 ≤ h_18.size := Nat.le_trans Z_16 E_18.1
  have At_18 := At_17.ext E_18
  have Pa_18 : JM Z h_18 a (.int (0 : Int32)) .null (.int (0 : Int32)) (.int (0 : Int32)) (.int (0 : Int32)) (.int (0 : Int32)) (.int (0 : Int32)) := ⟨A_18, D_18 (Or.inl (hw _ (List.mem_of_getElem? (i := 19) rfl))) (ty := .int) (by decide), D_18 (Or.inr (hw _ (List.mem_of_getElem? (i := 21) rfl))) (ty := (.array .byte)) (by decide), D_18 (Or.inr (hw _ (List.mem_of_getElem? (i := 23) rfl))) (ty := .int) (by decide), D_18 (Or.inl (hw _ (List.mem_of_getElem? (i := 30) rfl))) (ty := .boolean) (by decide), D_18 (Or.inl (hw _ (List.mem_of_getElem? (i := 47) rfl))) (ty := .int) (by decide), D_18 (Or.inl (hw _ (List.mem_of_getElem? (i := 49) rfl))) (ty := .int) (by decide), D_18 (Or.inl (hw _ (List.mem_of_getElem? (i := 55) rfl))) (ty := .int) (by decide)⟩
  refine o_dup C X at_122 123 rfl rfl ?_
  refine o_aload C X at_123 125 rfl rfl rfl ?_
  refine o_callI C X hZ (by rw [hml]; rfl) (own := "com/example/one_lookup/onelookup/json/JsonMembersIsStringPinLaw") (y := (⟨"com/example/one_lookup/onelookup/json/JsonMembers", "<init>", "([B)V"⟩ : MethodName)) hown rfl (hw _ (List.mem_of_getElem? (i := 9) rfl)) (hw _ (List.mem_of_getElem? (i := 10) rfl)) (hw _ (List.mem_of_getElem? (i := 8) rfl)) (hw _ (List.mem_of_getElem? (i := 11) rfl)) (by decide) (asL := [(.ref t)]) (a := a) (rm2 l Z a0 hw a t h_18 n0 ge_a Pa_18) e_18 pd_5 rfl rfl 1 (Nat.le_of_eq rfl) (by decide) (by decide) (by decide) (by decide) at_125 128 rfl ?_
  rintro T h_19 _ L_19 X e_19 ⟨rfl, N_19, K_19, P_19⟩
  have N0 := Fr.app N0 N_19
  have At_k19 := At_18.keep K_19 (ninS ne_t_a nin0)
  refine o_astore C X at_128 130 rfl rfl #[.val (.int x0), .val (.int x1), .val (.int x2), .val (.int x3), .val (.int x4), .val (.int x5), .val (.ref t), .val (.int kd1), .val (.int kd2), .val (.ref a), .unset, .unset, .unset, .unset, .unset] rfl ?_
  refine o_aload C X at_130 132 rfl rfl rfl ?_
  refine o_callV C X hZ (by rw [hml]; rfl) (own := "com/example/one_lookup/onelookup/json/JsonMembersIsStringPinLaw") (y := (⟨"com/example/one_lookup/onelookup/json/JsonMembers", "next", "()Z"⟩ : MethodName)) hown (hw _ (List.mem_of_getElem? (i := 24) rfl)) (hw _ (List.mem_of_getElem? (i := 25) rfl)) (hw _ (List.mem_of_getElem? (i := 27) rfl)) (hw _ (List.mem_of_getElem? (i := 26) rfl)) (hw _ (List.mem_of_getElem? (i := 8) rfl)) (hw _ (List.mem_of_getElem? (i := 28) rfl)) (by decide) (asL := []) (a := a) (nx1 l Z a0 hw a t fc (0 : Int32) (0 : Int32) (0 : Int32) vs1 en1 h_19 n0 ge_a ne_t_a.symm (by rw [e0 0 (by decide)]; exact hfa_0) S1 (by rw [e0 4 (by decide)]; exact hfa_4) r1 (fun k k1 k2 => by rw [e1 k (by omega)]; exact r3 k k1 k2) V1 P_19 At_k19) e_19 P_19.1 pd_6 rfl rfl 0 (Nat.le_of_eq rfl) (by decide) (by decide) (by decide) (by decide) at_132 135 rfl ?_
  rintro T h_20 _ L_20 X e_20 ⟨rfl, N_20, K_20, P_20⟩
  have N0 := Fr.app N0 N_20
  have At_k20 := At_k19.keep K_20 (ninS ne_t_a nin0)
  refine o_istore C X at_135 137 rfl #[.val (.int x0), .val (.int x1), .val (.int x2), .val (.int x3), .val (.int x4), .val (.int x5), .val (.ref t), .val (.int kd1), .val (.int kd2), .val (.ref a), .val (.int (1 : Int32)), .unset, .unset, .unset, .unset] rfl ?_
  refine o_aload C X at_137 139 rfl rfl rfl ?_
  refine o_callVP C X hZ (by rw [hml]; rfl) (own := "com/example/one_lookup/onelookup/json/JsonMembersIsStringPinLaw") (y := (⟨"com/example/one_lookup/onelookup/json/JsonMembers", "isString", "()Z"⟩ : MethodName)) (rf := 0) (rl := 0) hown (hw _ (List.mem_of_getElem? (i := 56) rfl)) (hw _ (List.mem_of_getElem? (i := 57) rfl)) (hw _ (List.mem_of_getElem? (i := 59) rfl)) (hw _ (List.mem_of_getElem? (i := 58) rfl)) (hw _ (List.mem_of_getElem? (i := 8) rfl)) (hw _ (List.mem_of_getElem? (i := 60) rfl)) (by decide) (asL := []) (a := a) (rm11 l Z a0 hw a t fc (.int (Int32.ofNat 1)) (.int (0 : Int32)) (.int (1 : Int32)) (.int (4 : Int32)) (.int (Int32.ofNat vs1)) (.int (Int32.ofNat en1)) (Int32.ofNat vs1) h_20 vs1 (own_to (by omega)) (by omega) rfl P_20 At_k20) e_20 P_20.1 pd_6 rfl rfl 0 (Nat.le_of_eq rfl) (by decide) (by decide) (by decide) (by decide) at_139 142 rfl ?_
  intro T X e_20
  refine o_istore C X at_142 144 rfl #[.val (.int x0), .val (.int x1), .val (.int x2), .val (.int x3), .val (.int x4), .val (.int x5), .val (.ref t), .val (.int kd1), .val (.int kd2), .val (.ref a), .val (.int (1 : Int32)), .val (.int (FS fc vs1)), .unset, .unset, .unset] rfl ?_
  refine o_aload C X at_144 146 rfl rfl rfl ?_
  refine o_callV C X hZ (by rw [hml]; rfl) (own := "com/example/one_lookup/onelookup/json/JsonMembersIsStringPinLaw") (y := (⟨"com/example/one_lookup/onelookup/json/JsonMembers", "next", "()Z"⟩ : MethodName)) hown (hw _ (List.mem_of_getElem? (i := 24) rfl)) (hw _ (List.mem_of_getElem? (i := 25) rfl)) (hw _ (List.mem_of_getElem? (i := 27) rfl)) (hw _ (List.mem_of_getElem? (i := 26) rfl)) (hw _ (List.mem_of_getElem? (i := 8) rfl)) (hw _ (List.mem_of_getElem? (i := 28) rfl)) (by decide) (asL := []) (a := a) (nx2 l Z a0 hw a t fc (4 : Int32) (Int32.ofNat vs1) en1 vs2 en2 h_20 n0 ge_a ne_t_a.symm r2 (fun k k1 k2 => by rw [e1 k k1]; exact r4 k (by omega) k2) (by rw [e2 9 (by decide) (by decide)]; exact hfb_1) S2 (by rw [e2 13 (by decide) (by decide)]; exact hfb_5) s1 (fun k k1 k2 => by rw [hfc_0 k (by omega)]; exact s3 k k1 k2) V2 P_20 At_k20) e_20 P_20.1 pd_6 rfl rfl 0 (Nat.le_of_eq rfl) (by decide) (by decide) (by decide) (by decide) at_146 149 rfl ?_
  rintro T h_21 _ L_21 X e_21 ⟨rfl, N_21, K_21, P_21⟩
  have N0 := Fr.app N0 N_21
  have At_k21 := At_k20.keep K_21 (ninS ne_t_a nin0)
  refine o_istore C X at_149 151 rfl #[.val (.int x0), .val (.int x1), .val (.int x2), .val (.int x3), .val (.int x4), .val (.int x5), .val (.ref t), .val (.int kd1), .val (.int kd2), .val (.ref a), .val (.int (1 : Int32)), .val (.int (FS fc vs1)), .val (.int (1 : Int32)), .unset, .unset] rfl ?_
  refine o_aload C X at_151 153 rfl rfl rfl ?_
  refine o_callVP C X hZ (by rw [hml]; rfl) (own := "com/example/one_lookup/onelookup/json/JsonMembersIsStringPinLaw") (y := (⟨"com/example/one_lookup/onelookup/json/JsonMembers", "isString", "()Z"⟩ : MethodName)) (rf := 0) (rl := 0) hown (hw _ (List.mem_of_getElem? (i := 56) rfl)) (hw _ (List.mem_of_getElem? (i := 57) rfl)) (hw _ (List.mem_of_getElem? (i := 59) rfl)) (hw _ (List.mem_of_getElem? (i := 58) rfl)) (hw _ (List.mem_of_getElem? (i := 8) rfl)) (hw _ (List.mem_of_getElem? (i := 60) rfl)) (by decide) (asL := []) (a := a) (rm11 l Z a0 hw a t fc (.int (Int32.ofNat 10)) (.int (0 : Int32)) (.int (1 : Int32)) (.int (13 : Int32)) (.int (Int32.ofNat vs2)) (.int (Int32.ofNat en2)) (Int32.ofNat vs2) h_21 vs2 (own_to (by omega)) (by omega) rfl P_21 At_k21) e_21 P_21.1 pd_6 rfl rfl 0 (Nat.le_of_eq rfl) (by decide) (by decide) (by decide) (by decide) at_153 156 rfl ?_
  intro T X e_21
  refine o_istore C X at_156 158 rfl #[.val (.int x0), .val (.int x1), .val (.int x2), .val (.int x3), .val (.int x4), .val (.int x5), .val (.ref t), .val (.int kd1), .val (.int kd2), .val (.ref a), .val (.int (1 : Int32)), .val (.int (FS fc vs1)), .val (.int (1 : Int32)), .val (.int (FS fc vs2)), .unset] rfl ?_
  refine o_aload C X at_158 160 rfl rfl rfl ?_
  refine o_callV C X hZ (by rw [hml]; rfl) (own := "com/example/one_lookup/onelookup/json/JsonMembersIsStringPinLaw") (y := (⟨"com/example/one_lookup/onelookup/json/JsonMembers", "next", "()Z"⟩ : MethodName)) hown (hw _ (List.mem_of_getElem? (i := 24) rfl)) (hw _ (List.mem_of_getElem? (i := 25) rfl)) (hw _ (List.mem_of_getElem? (i := 27) rfl)) (hw _ (List.mem_of_getElem? (i := 26) rfl)) (hw _ (List.mem_of_getElem? (i := 8) rfl)) (hw _ (List.mem_of_getElem? (i := 28) rfl)) (by decide) (asL := []) (a := a) (nx3 l Z a0 hw a t fc (13 : Int32) (Int32.ofNat vs2) en2 h_21 n0 ge_a ne_t_a.symm s2 (fun k k1 k2 => by rw [hfc_0 k k1]; exact s4 k (by omega) k2) hfc_1 P_21 At_k21) e_21 P_21.1 pd_6 rfl rfl 0 (Nat.le_of_eq rfl) (by decide) (by decide) (by decide) (by decide) at_160 163 rfl ?_
  rintro T h_22 _ L_22 X e_22 ⟨rfl, N_22, K_22, P_22⟩
  have N0 := Fr.app N0 N_22
  have At_k22 := At_k21.keep K_22 (ninS ne_t_a nin0)
  refine o_istore C X at_163 165 rfl #[.val (.int x0), .val (.int x1), .val (.int x2), .val (.int x3), .val (.int x4), .val (.int x5), .val (.ref t), .val (.int kd1), .val (.int kd2), .val (.ref a), .val (.int (1 : Int32)), .val (.int (FS fc vs1)), .val (.int (1 : Int32)), .val (.int (FS fc vs2)), .val (.int (0 : Int32))] rfl ?_
  refine o_iload C X at_165 167 rfl rfl ?_
  refine o_ifN C X at_167 170 rfl ((if0 _ _).trans (feq (by decide : ¬ ((1 : Int32) = (0 : Int32)))).1) ?_
  refine o_iload C X at_170 172 rfl rfl ?_
  refine o_ifN C X at_172 175 rfl ((if0 _ _).trans (feq (by decide : ¬ ((1 : Int32) = (0 : Int32)))).1) ?_
  refine o_iload C X at_175 177 rfl rfl ?_
  refine o_ifN C X at_177 180 rfl ((if0 _ _).trans (teq (rfl : (0 : Int32) = (0 : Int32))).2) ?_
  refine o_iload C X at_180 182 rfl rfl ?_
  refine o_iload C X at_182 184 rfl rfl ?_
  refine o_iconst C X at_184 185 rfl (1 : Int32) (by decide) ?_
  refine Ends.via (T := T) (mkF m 193 #[.val (.int x0), .val (.int x1), .val (.int x2), .val (.int x3), .val (.int x4), .val (.int x5), .val (.ref t), .val (.int kd1), .val (.int kd2), .val (.ref a), .val (.int (1 : Int32)), .val (.int (FS fc vs1)), .val (.int (1 : Int32)), .val (.int (FS fc vs2)), .val (.int (0 : Int32))] [(.int (if (1 : Int32) < kd1 then (0 : Int32) else (1 : Int32))), (.int (FS fc vs1))]) (fun K0 => ?_) ?_
  · skip
    by_cases q20 : (1 : Int32) < kd1
    · skip
      refine o_icmpY C X at_185 192 (by decide) (by decide) (tlt q20).2.2.1 ?_
      refine o_iconst C X at_192 193 rfl (0 : Int32) (by decide) ?_
      simp only [if_pos q20] at K0
      exact K0
    · skip
      refine o_icmpN C X at_185 188 rfl (flt q20).2.2.1 ?_
      refine o_iconst C X at_188 189 rfl (1 : Int32) (by decide) ?_
      refine o_goto C X at_189 193 (by decide) (by decide) ?_
      simp only [if_neg q20] at K0
      exact K0
  refine o_icmpN C X at_193 196 rfl (teq (own_fs (by rw [e1 vs1 (by have := own_v19 V1; omega)]; exact iff1) : (FS fc vs1) = (if (1 : Int32) < kd1 then (0 : Int32) else (1 : Int32)))).2 ?_
  refine o_iload C X at_196 198 rfl rfl ?_
  refine o_iload C X at_198 200 rfl rfl ?_
  refine o_iconst C X at_200 201 rfl (1 : Int32) (by decide) ?_
  refine Ends.via (T := T) (mkF m 209 #[.val (.int x0), .val (.int x1), .val (.int x2), .val (.int x3), .val (.int x4), .val (.int x5), .val (.ref t), .val (.int kd1), .val (.int kd2), .val (.ref a), .val (.int (1 : Int32)), .val (.int (FS fc vs1)), .val (.int (1 : Int32)), .val (.int (FS fc vs2)), .val (.int (0 : Int32))] [(.int (if (1 : Int32) < kd2 then (0 : Int32) else (1 : Int32))), (.int (FS fc vs2))]) (fun K0 => ?_) ?_
  · skip
    by_cases q21 : (1 : Int32) < kd2
    · skip
      refine o_icmpY C X at_201 208 (by decide) (by decide) (tlt q21).2.2.1 ?_
      refine o_iconst C X at_208 209 rfl (0 : Int32) (by decide) ?_
      simp only [if_pos q21] at K0
      exact K0
    · skip
      refine o_icmpN C X at_201 204 rfl (flt q21).2.2.1 ?_
      refine o_iconst C X at_204 205 rfl (1 : Int32) (by decide) ?_
      refine o_goto C X at_205 209 (by decide) (by decide) ?_
      simp only [if_neg q21] at K0
      exact K0
  refine o_icmpN C X at_209 212 rfl (teq (own_fs (by rw [hfc_0 vs2 (by omega)]; exact iff2) : (FS fc vs2) = (if (1 : Int32) < kd2 then (0 : Int32) else (1 : Int32)))).2 ?_
  refine o_iconst C X at_212 213 rfl (1 : Int32) (by decide) ?_
  refine o_goto C X at_213 217 (by decide) (by decide) ?_
  exact o_retN C X hret (by simp) hlk at_217 ⟨congrArg some (congrArg _ (rfl)), N0⟩ (by decide) (by decide)
set_option maxRecDepth 65536 in
set_option maxHeartbeats 40000000 in
theorem comes_1 {Post : Tables → Env → Array Value → State → Outcome → State → Prop} (hpost : ∀ tb e args s v u, (limb_1_1.after args s (.returned v) u = true ∧ limb_1_2.after args s (.returned v) u = true ∧ True) → FrameEnd s (.returned v) u (Jvm.fieldLocs frame_1_writes args s ++ Jvm.arrayLocs frame_1_arrays args s ++ Jvm.staticLocs frame_1_statics s) 16 128 → Post tb e args s (.returned v) u) :
    ArmFor flags0 classFile x code maxLocals ret World_1 tables_1 room_1 Calls_1 rest_1 Pre_1 Post := by
  intro l hfl _ _ p e ha hc hk s m args below hf hA hF happ hP
  obtain ⟨hcalls, hrest, hpre⟩ := hP
  obtain ⟨-, -, -, hnamed, -, -, -, hat⟩ := (Spec.applies_iff hf).mp happ
  obtain ⟨hg, hn⟩ := and_e (Cond.before_iff.mp (show (Jvm.Cond.and given_1 narrow_1).before args s = true from hpre))
  obtain ⟨g0, g1⟩ := and_e hg
  obtain ⟨w0, w1, w2, w3, w4, w5, rfl⟩ : ∃ w0 w1 w2 w3 w4 w5 : Value, args = #[w0, w1, w2, w3, w4, w5] := by
    have hs : args.size = 6 := by simpa [Cond.value, given_1] using g0
    obtain ⟨L⟩ := args
    match L, hs with
    | [w0, w1, w2, w3, w4, w5], _ => exact ⟨w0, w1, w2, w3, w4, w5, rfl⟩
  have hw := fun d (hd : d ∈ tables_1) => atoms_spec (ws := Jvm.Cond.code x code maxLocals ret :: tables_1) hat d (List.mem_cons_of_mem _ hd)
  have hfit : Fit s := fun {y c} hc i hi => by
    obtain ⟨ha, rfl⟩ := Array.getElem?_eq_some_iff.mp hc
    have q := List.all_eq_true.mp ((Array.all_eq_true_iff_forall_mem.mp hF) _ (Array.getElem_mem ha)) i (List.mem_range.mpr hi)
    simpa [Array.getElem?_eq_getElem hi] using q
  obtain ⟨f0, g1⟩ := and_e g1
  obtain ⟨i0, e0⟩ := is_v f0
  obtain rfl : w0 = (.int i0) := Option.some.inj e0
  obtain ⟨f1, g1⟩ := and_e g1
  obtain ⟨i1, e1⟩ := is_v f1
  obtain rfl : w1 = (.int i1) := Option.some.inj e1
  obtain ⟨f2, g1⟩ := and_e g1
  obtain ⟨i2, e2⟩ := is_v f2
  obtain rfl : w2 = (.int i2) := Option.some.inj e2
  obtain ⟨f3, g1⟩ := and_e g1
  obtain ⟨i3, e3⟩ := is_v f3
  obtain rfl : w3 = (.int i3) := Option.some.inj e3
  obtain ⟨f4, g1⟩ := and_e g1
  obtain ⟨i4, e4⟩ := is_v f4
  obtain rfl : w4 = (.int i4) := Option.some.inj e4
  have f5 := g1
  obtain ⟨i5, e5⟩ := is_v f5
  obtain rfl : w5 = (.int i5) := Option.some.inj e5
  obtain ⟨n, o, h1, h2, h3, _, L, rfl, ⟨rfl, N⟩, hq⟩ := rm0 l s _ hw i0 i1 i2 i3 i4 i5 s.heap s.heap.size (Nat.le_refl _) p e ha hc hk s m _ below hf ((Spec.applies_iff_loose hf).mp happ).1 ⟨rfl, State.Warmed39.refl s, rfl⟩ trivial
  exact ⟨n, _, h1, h2, h3, hpost _ _ _ _ _ _ ⟨Cond.after_iff.mpr rfl, Cond.after_iff.mpr (eq_i res_at (Term.int_eval (1)) rfl), trivial⟩ ⟨hq.1, hq.2.1, (hq.2.2.sift fun y hy => Or.inr (N y hy)).mono (by decide) (by decide)⟩⟩
theorem main_1_1 : Claimed_1_1 := comes_1 fun _ _ _ _ _ _ h hF => ⟨h.1, hF⟩
theorem main_1_2 : Claimed_1_2 := comes_1 fun _ _ _ _ _ _ h hF => ⟨h.2.1, hF⟩
end Jvm.Pilot.@@N@@
namespace Jvm.Pilot.@@N@@
open Jvm Jvm.ClassFile Sem Op Lib Jvm.Free Jvm.Stand Jvm.Pilot.@@N@@.Jvm.D
/-! MADE BY PROGRAM (witnessworld.py) out of the Statement's table words and the real class files: 13 classes; the members and pool entries that the words name. The judged class is class 1, her method 1. -/
namespace start1
open Jvm.ClassFile
def u (s : String) : CpInfo := .utf8 (stringToUtf16 s)
/-- a pool by its gaps: so many unusable entries, then the entry; so many at the end -/
def gap : Nat → List CpInfo → List CpInfo
  | 0, r => r
  | n + 1, r => .unusable :: gap n r
def poolList (es : List (Nat × CpInfo)) (last : Nat) : List CpInfo := es.foldr (fun e r => gap e.1 (e.2 :: r)) (gap last [])
def pool (es : List (Nat × CpInfo)) (last : Nat) : Array CpInfo := ⟨poolList es last⟩
def fileOf (pool : Array CpInfo) (this : Nat) (attrs : Array Attribute := #[]) (ms : Array MethodInfo := #[]) (fl : Nat := 33) (sup : Nat := 0) (ifs : Array Nat := #[]) (fds : Array FieldInfo := #[]) : ClassFile where
  minorVersion := 0
  majorVersion := 65
  constantPool := pool
  accessFlags := fl
  thisClass := this
  superClass := sup
  interfaces := ifs
  fields := fds
  methods := ms
  attributes := attrs
def plain (name : String) (sup : Option ClassId) : Class where
  name := name
  kind := .ordinary
  loader := none
  accessFlags := 33
  super := sup
  interfaces := #[]
  cf := none
  fields := #[]
  methods := #[]
  instanceTypes := #[]
  staticTypes := #[]
  resolved := #[]
  callSites := []
  init := .initialized
  statics := none
  mirror := none

def pool0 : Array CpInfo := pool [(5, u "<init>"), (0, u "()V"), (1, .class_ 10), (1, u "java/lang/Object")] 113

def k0c0 : Code := { maxStack := 0, maxLocals := 1, code := object_method_1_code, exceptionTable := #[], attributes := #[] }
def k0m0 : Method := { name := "<init>", desc := "()V", sig := { parameters := [], returnType := none }, accessFlags := 1, code := some k0c0 }
/-- java/lang/Object -/
def k0 : Class := { plain "java/lang/Object" none with
  accessFlags := 33
  interfaces := #[]
  cf := some (fileOf pool0 8 #[] #[{ accessFlags := 1, nameIndex := 5, descriptorIndex := 6, attributes := #[] }] 33 0 #[] #[])
  fields := #[]
  methods := #[k0m0]
  instanceTypes := #[]
  staticTypes := #[]
  resolved := Array.replicate 124 none
  statics := none }

def pool1 : Array CpInfo := pool [(2, .class_ 4), (1, u "java/lang/Object"), (0, u "<init>"), (0, u "()V"), (0, .integer 2147483647), (0, .methodref 9 10), (0, .class_ 11), (0, .nameAndType 12 13), (0, u "com/example/one_lookup/onelookup/json/JsonMembersIsStringPinLaw"), (0, u "fill"), (0, u "([BIIII)V"), (0, .class_ 15), (0, u "com/example/one_lookup/onelookup/json/JsonMembers"), (0, .methodref 14 17), (0, .nameAndType 5 18), (0, u "([B)V"), (0, .methodref 14 20), (0, .nameAndType 21 22), (0, u "next"), (0, u "()Z"), (0, .methodref 14 24), (0, .nameAndType 25 22), (0, u "isString"), (2, u "law"), (0, u "(IIIIII)Z")] 8

def k1m0 : Method := { name := "<init>", desc := "()V", sig := { parameters := [], returnType := none }, accessFlags := 2, code := none }
def k1c1 : Code := { maxStack := 5, maxLocals := 15, code := code, exceptionTable := #[], attributes := #[] }
def k1m1 : Method := { name := "law", desc := "(IIIIII)Z", sig := { parameters := [.int, .int, .int, .int, .int, .int], returnType := some .boolean }, accessFlags := 9, code := some k1c1 }
def k1c2 : Code := { maxStack := 5, maxLocals := 11, code := method_3_code, exceptionTable := #[], attributes := #[] }
def k1m2 : Method := { name := "fill", desc := "([BIIII)V", sig := { parameters := [(.array .byte), .int, .int, .int, .int], returnType := none }, accessFlags := 10, code := some k1c2 }
/-- com/example/one_lookup/onelookup/json/JsonMembersIsStringPinLaw -/
def k1 : Class := { plain "com/example/one_lookup/onelookup/json/JsonMembersIsStringPinLaw" (some 0) with
  accessFlags := 49
  interfaces := #[]
  cf := some (fileOf pool1 9 #[] #[{ accessFlags := 2, nameIndex := 5, descriptorIndex := 6, attributes := #[] }, { accessFlags := 9, nameIndex := 28, descriptorIndex := 29, attributes := #[] }, { accessFlags := 10, nameIndex := 12, descriptorIndex := 13, attributes := #[] }] 49 2 #[] #[])
  fields := #[]
  methods := #[k1m0, k1m1, k1m2]
  instanceTypes := #[]
  staticTypes := #[]
  resolved := Array.replicate 38 none
  statics := none }

def pool2 : Array CpInfo := pool [(1, .methodref 2 3), (0, .class_ 4), (0, .nameAndType 5 6), (0, u "com/example/one_lookup/onelookup/json/JsonMembers"), (0, u "<init>"), (0, u "([BI)V"), (0, .methodref 8 9), (0, .class_ 10), (0, .nameAndType 5 11), (0, u "java/lang/Object"), (0, u "()V"), (0, .fieldref 2 13), (0, .nameAndType 14 15), (0, u "nameStart"), (0, u "I"), (0, .fieldref 2 17), (0, .nameAndType 18 19), (0, u "text"), (0, u "[B"), (0, .fieldref 2 21), (0, .nameAndType 22 15), (0, u "start"), (0, .fieldref 2 24), (0, .nameAndType 25 26), (0, u "begun"), (0, u "Z"), (0, .methodref 2 28), (0, .nameAndType 29 30), (0, u "space"), (0, u "(I)I"), (0, .fieldref 2 32), (0, .nameAndType 33 15), (0, u "valueEnd"), (0, .class_ 35), (0, u "com/example/one_lookup/onelookup/json/JsonMembers$MalformedException"), (5, .methodref 2 42), (0, .nameAndType 43 30), (0, u "string"), (0, .fieldref 2 45), (0, .nameAndType 46 15), (0, u "nameEnd"), (2, .fieldref 2 50), (0, .nameAndType 51 15), (0, u "valueStart"), (0, .methodref 2 53), (0, .nameAndType 54 30), (0, u "value"), (6, u "isString"), (0, u "()Z"), (0, .methodref 2 64), (0, .nameAndType 65 66), (0, u "isDigit"), (0, u "(B)Z"), (23, .methodref 2 91), (0, .nameAndType 92 30), (0, u "nested"), (19, .methodref 2 113), (0, .nameAndType 114 66), (0, u "isSpace"), (2, .methodref 2 118), (0, .nameAndType 119 66), (0, u "endsScalar"), (0, .methodref 2 121), (0, .nameAndType 122 66), (0, u "isLetter"), (4, .methodref 128 129), (0, .class_ 130), (0, .nameAndType 131 132), (0, u "java/lang/Byte"), (0, u "toUnsignedInt"), (0, u "(B)I"), (47, u "NONE"), (2, u "([B)V"), (2, u "next")] 15

def k2c0 : Code := { maxStack := 3, maxLocals := 2, code := prog_23_method_1_code, exceptionTable := #[], attributes := #[] }
def k2m0 : Method := { name := "<init>", desc := "([B)V", sig := { parameters := [(.array .byte)], returnType := none }, accessFlags := 1, code := some k2c0 }
def k2c1 : Code := { maxStack := 2, maxLocals := 3, code := prog_23_method_2_code, exceptionTable := #[], attributes := #[] }
def k2m1 : Method := { name := "<init>", desc := "([BI)V", sig := { parameters := [(.array .byte), .int], returnType := none }, accessFlags := 2, code := some k2c1 }
def k2c2 : Code := { maxStack := 4, maxLocals := 4, code := prog_23_method_3_code, exceptionTable := #[], attributes := #[] }
def k2m2 : Method := { name := "next", desc := "()Z", sig := { parameters := [], returnType := some .boolean }, accessFlags := 1, code := some k2c2 }
def k2c3 : Code := { maxStack := 2, maxLocals := 1, code := prog_23_method_5_code, exceptionTable := #[], attributes := #[] }
def k2m3 : Method := { name := "isString", desc := "()Z", sig := { parameters := [], returnType := some .boolean }, accessFlags := 1, code := some k2c3 }
def k2c4 : Code := { maxStack := 2, maxLocals := 3, code := prog_23_method_10_code, exceptionTable := #[], attributes := #[] }
def k2m4 : Method := { name := "space", desc := "(I)I", sig := { parameters := [.int], returnType := some .int }, accessFlags := 2, code := some k2c4 }
def k2c5 : Code := { maxStack := 4, maxLocals := 4, code := prog_23_method_11_code, exceptionTable := #[], attributes := #[] }
def k2m5 : Method := { name := "value", desc := "(I)I", sig := { parameters := [.int], returnType := some .int }, accessFlags := 2, code := some k2c5 }
def k2c6 : Code := { maxStack := 4, maxLocals := 5, code := prog_23_method_12_code, exceptionTable := #[], attributes := #[] }
def k2m6 : Method := { name := "nested", desc := "(I)I", sig := { parameters := [.int], returnType := some .int }, accessFlags := 2, code := some k2c6 }
def k2c7 : Code := { maxStack := 4, maxLocals := 3, code := prog_23_method_13_code, exceptionTable := #[], attributes := #[] }
def k2m7 : Method := { name := "string", desc := "(I)I", sig := { parameters := [.int], returnType := some .int }, accessFlags := 2, code := some k2c7 }
def k2c8 : Code := { maxStack := 2, maxLocals := 1, code := prog_23_method_18_code, exceptionTable := #[], attributes := #[] }
def k2m8 : Method := { name := "endsScalar", desc := "(B)Z", sig := { parameters := [.byte], returnType := some .boolean }, accessFlags := 10, code := some k2c8 }
def k2c9 : Code := { maxStack := 2, maxLocals := 1, code := prog_23_method_19_code, exceptionTable := #[], attributes := #[] }
def k2m9 : Method := { name := "isSpace", desc := "(B)Z", sig := { parameters := [.byte], returnType := some .boolean }, accessFlags := 10, code := some k2c9 }
def k2c10 : Code := { maxStack := 2, maxLocals := 1, code := prog_23_method_20_code, exceptionTable := #[], attributes := #[] }
def k2m10 : Method := { name := "isDigit", desc := "(B)Z", sig := { parameters := [.byte], returnType := some .boolean }, accessFlags := 10, code := some k2c10 }
def k2c11 : Code := { maxStack := 2, maxLocals := 1, code := prog_23_method_21_code, exceptionTable := #[], attributes := #[] }
def k2m11 : Method := { name := "isLetter", desc := "(B)Z", sig := { parameters := [.byte], returnType := some .boolean }, accessFlags := 10, code := some k2c11 }
/-- com/example/one_lookup/onelookup/json/JsonMembers -/
def k2 : Class := { plain "com/example/one_lookup/onelookup/json/JsonMembers" (some 0) with
  accessFlags := 49
  interfaces := #[]
  cf := some (fileOf pool2 2 #[.nestMembers #[34]] #[{ accessFlags := 1, nameIndex := 5, descriptorIndex := 183, attributes := #[] }, { accessFlags := 2, nameIndex := 5, descriptorIndex := 6, attributes := #[] }, { accessFlags := 1, nameIndex := 186, descriptorIndex := 62, attributes := #[] }, { accessFlags := 1, nameIndex := 61, descriptorIndex := 62, attributes := #[] }, { accessFlags := 2, nameIndex := 29, descriptorIndex := 30, attributes := #[] }, { accessFlags := 2, nameIndex := 54, descriptorIndex := 30, attributes := #[] }, { accessFlags := 2, nameIndex := 92, descriptorIndex := 30, attributes := #[] }, { accessFlags := 2, nameIndex := 43, descriptorIndex := 30, attributes := #[] }, { accessFlags := 10, nameIndex := 119, descriptorIndex := 66, attributes := #[] }, { accessFlags := 10, nameIndex := 114, descriptorIndex := 66, attributes := #[] }, { accessFlags := 10, nameIndex := 65, descriptorIndex := 66, attributes := #[] }, { accessFlags := 10, nameIndex := 122, descriptorIndex := 66, attributes := #[] }] 49 8 #[] #[{ accessFlags := 26, nameIndex := 180, descriptorIndex := 15, attributes := #[] }, { accessFlags := 18, nameIndex := 18, descriptorIndex := 19, attributes := #[] }, { accessFlags := 18, nameIndex := 22, descriptorIndex := 15, attributes := #[] }, { accessFlags := 2, nameIndex := 25, descriptorIndex := 26, attributes := #[] }, { accessFlags := 2, nameIndex := 14, descriptorIndex := 15, attributes := #[] }, { accessFlags := 2, nameIndex := 46, descriptorIndex := 15, attributes := #[] }, { accessFlags := 2, nameIndex := 51, descriptorIndex := 15, attributes := #[] }, { accessFlags := 2, nameIndex := 33, descriptorIndex := 15, attributes := #[] }])
  fields := #[{ name := "NONE", type := .int, accessFlags := 26, slot := 0, constantValue := 0 }, { name := "text", type := (.array .byte), accessFlags := 18, slot := 0, constantValue := 0 }, { name := "start", type := .int, accessFlags := 18, slot := 1, constantValue := 0 }, { name := "begun", type := .boolean, accessFlags := 2, slot := 2, constantValue := 0 }, { name := "nameStart", type := .int, accessFlags := 2, slot := 3, constantValue := 0 }, { name := "nameEnd", type := .int, accessFlags := 2, slot := 4, constantValue := 0 }, { name := "valueStart", type := .int, accessFlags := 2, slot := 5, constantValue := 0 }, { name := "valueEnd", type := .int, accessFlags := 2, slot := 6, constantValue := 0 }]
  methods := #[k2m0, k2m1, k2m2, k2m3, k2m4, k2m5, k2m6, k2m7, k2m8, k2m9, k2m10, k2m11]
  instanceTypes := #[(.array .byte), .int, .boolean, .int, .int, .int, .int]
  staticTypes := #[.int]
  resolved := Array.replicate 202 none
  statics := none }

def pool3 : Array CpInfo := pool [(1, .class_ 2), (0, u "java/io/Serializable"), (0, .class_ 4), (0, u "java/lang/Object")] 2

/-- java/io/Serializable -/
def k3 : Class := { plain "java/io/Serializable" (some 0) with
  accessFlags := 1537
  interfaces := #[]
  cf := some (fileOf pool3 1 #[] #[] 1537 3 #[] #[])
  fields := #[]
  methods := #[]
  instanceTypes := #[]
  staticTypes := #[]
  resolved := Array.replicate 7 none
  statics := none }

def pool4 : Array CpInfo := pool [(2, .class_ 4), (1, u "java/lang/Object"), (0, u "<init>"), (0, u "()V"), (1, .class_ 10), (1, u "java/lang/Number"), (2, .class_ 14), (0, u "java/io/Serializable"), (0, u "serialVersionUID"), (0, u "J")] 20

def k4m0 : Method := { name := "<init>", desc := "()V", sig := { parameters := [], returnType := none }, accessFlags := 1, code := none }
/-- java/lang/Number -/
def k4 : Class := { plain "java/lang/Number" (some 0) with
  accessFlags := 1057
  interfaces := #[3]
  cf := some (fileOf pool4 8 #[] #[{ accessFlags := 1, nameIndex := 5, descriptorIndex := 6, attributes := #[] }] 1057 2 #[13] #[{ accessFlags := 26, nameIndex := 15, descriptorIndex := 16, attributes := #[] }])
  fields := #[{ name := "serialVersionUID", type := .long, accessFlags := 26, slot := 0, constantValue := 0 }]
  methods := #[k4m0]
  instanceTypes := #[]
  staticTypes := #[.long]
  resolved := Array.replicate 37 none
  statics := none }

def pool5 : Array CpInfo := pool [(1, .class_ 2), (0, u "java/lang/Comparable"), (0, .class_ 4), (0, u "java/lang/Object")] 7

/-- java/lang/Comparable -/
def k5 : Class := { plain "java/lang/Comparable" (some 0) with
  accessFlags := 1537
  interfaces := #[]
  cf := some (fileOf pool5 1 #[] #[] 1537 3 #[] #[])
  fields := #[]
  methods := #[]
  instanceTypes := #[]
  staticTypes := #[]
  resolved := Array.replicate 12 none
  statics := none }

def pool6 : Array CpInfo := pool [(1, .class_ 2), (0, u "java/lang/constant/Constable"), (0, .class_ 4), (0, u "java/lang/Object")] 6

/-- java/lang/constant/Constable -/
def k6 : Class := { plain "java/lang/constant/Constable" (some 0) with
  accessFlags := 1537
  interfaces := #[]
  cf := some (fileOf pool6 1 #[] #[] 1537 3 #[] #[])
  fields := #[]
  methods := #[]
  instanceTypes := #[]
  staticTypes := #[]
  resolved := Array.replicate 11 none
  statics := none }

def pool7 : Array CpInfo := pool [(1, .class_ 2), (0, u "java/lang/Byte"), (41, .class_ 46), (1, u "java/lang/Byte$ByteCache"), (51, .class_ 99), (0, u "java/lang/Number"), (2, u "value"), (0, u "B"), (3, u "(B)I"), (10, u "toUnsignedInt"), (16, u "TYPE"), (0, u "Ljava/lang/Class;"), (0, .class_ 138), (0, u "java/lang/Comparable"), (0, .class_ 140), (0, u "java/lang/constant/Constable"), (0, u "MIN_VALUE"), (2, u "MAX_VALUE"), (3, u "SIZE"), (0, u "I"), (1, u "BYTES"), (1, u "serialVersionUID"), (0, u "J")] 58

def k7c0 : Code := { maxStack := 2, maxLocals := 1, code := jdk_2056_method_24_code, exceptionTable := #[], attributes := #[] }
def k7m0 : Method := { name := "toUnsignedInt", desc := "(B)I", sig := { parameters := [.byte], returnType := some .int }, accessFlags := 9, code := some k7c0 }
/-- java/lang/Byte -/
def k7 : Class := { plain "java/lang/Byte" (some 4) with
  accessFlags := 49
  interfaces := #[5, 6]
  cf := some (fileOf pool7 1 #[.nestMembers #[44]] #[{ accessFlags := 9, nameIndex := 118, descriptorIndex := 107, attributes := #[] }] 49 98 #[137, 139] #[{ accessFlags := 25, nameIndex := 141, descriptorIndex := 103, attributes := #[] }, { accessFlags := 25, nameIndex := 144, descriptorIndex := 103, attributes := #[] }, { accessFlags := 25, nameIndex := 135, descriptorIndex := 136, attributes := #[] }, { accessFlags := 18, nameIndex := 102, descriptorIndex := 103, attributes := #[] }, { accessFlags := 25, nameIndex := 148, descriptorIndex := 149, attributes := #[] }, { accessFlags := 25, nameIndex := 151, descriptorIndex := 149, attributes := #[] }, { accessFlags := 26, nameIndex := 153, descriptorIndex := 154, attributes := #[] }])
  fields := #[{ name := "MIN_VALUE", type := .byte, accessFlags := 25, slot := 0, constantValue := 0 }, { name := "MAX_VALUE", type := .byte, accessFlags := 25, slot := 1, constantValue := 0 }, { name := "TYPE", type := (.object "java/lang/Class"), accessFlags := 25, slot := 2, constantValue := 0 }, { name := "value", type := .byte, accessFlags := 18, slot := 0, constantValue := 0 }, { name := "SIZE", type := .int, accessFlags := 25, slot := 3, constantValue := 0 }, { name := "BYTES", type := .int, accessFlags := 25, slot := 4, constantValue := 0 }, { name := "serialVersionUID", type := .long, accessFlags := 26, slot := 5, constantValue := 0 }]
  methods := #[k7m0]
  instanceTypes := #[.byte]
  staticTypes := #[.byte, .byte, (.object "java/lang/Class"), .int, .int, .long]
  resolved := Array.replicate 213 none
  statics := none }

def pool8 : Array CpInfo := pool [(1, u "java/lang/Cloneable"), (0, .class_ 1), (0, u "java/lang/Object"), (0, .class_ 3)] 3

/-- java/lang/Cloneable -/
def k8 : Class := { plain "java/lang/Cloneable" (some 0) with
  accessFlags := 1537
  interfaces := #[]
  cf := some (fileOf pool8 2 #[] #[] 1537 4 #[] #[])
  fields := #[]
  methods := #[]
  instanceTypes := #[]
  staticTypes := #[]
  resolved := Array.replicate 8 none
  statics := none }

/-- the primitive byte -/
def k9 : Class := { plain "byte" none with kind := .primitive 'B', accessFlags := 0x411 }
/-- [B -/
def k10 : Class := { plain "[B" (some 0) with kind := .array 9 .byte, interfaces := #[8, 3], accessFlags := 1041 }

/-- the primitive int -/
def k11 : Class := { plain "int" none with kind := .primitive 'I', accessFlags := 0x411 }
/-- [I -/
def k12 : Class := { plain "[I" (some 0) with kind := .array 11 .int, interfaces := #[8, 3], accessFlags := 1041 }

def heap : Heap := #[]
def classes : Array Class := #[k0, k1, k2, k3, k4, k5, k6, k7, k8, k9, k10, k11, k12]
def interned : List (Array UInt16 × Addr) := []
def slotsUsed : Nat := 0
def theMethod : MethodId := ⟨1, 1⟩
def args0 : Array Value := #[.int 3, .int 4, .int 5, .int 6, .int 7, .int 8]
def aboutOver (below : List Frame) : State where
  vm := { classes := classes, interned := interned.toArray }
  heap := heap
  slotsUsed := slotsUsed
  threads := #[{ frames := .invoking theMethod args0 :: below }]
def below0 : List Frame := [.native { method := ⟨0, 0⟩, args := #[] }]
def about1 : State := aboutOver below0
def p0 : Program := .bare "" "" ""
def e0 : Env := launch0.env 0 0 0
theorem w_frames : about1.frames = Frame.invoking theMethod args0 :: below0 := rfl
set_option maxRecDepth 65536 in
theorem w_args : argsFit about1.vm theMethod args0 = true := by decide +kernel
set_option maxRecDepth 65536 in
theorem w_heap : heapFits about1 = true := by decide +kernel
set_option maxRecDepth 65536 in
theorem w_runnable : about1.curStatus? = some .runnable := by decide +kernel
set_option maxRecDepth 65536 in
theorem w_alone : about1.alone = true := by decide +kernel
set_option maxRecDepth 65536 in
theorem w_named : about1.methodNamed? x = some theMethod := by decide +kernel
set_option maxRecDepth 65536 in
theorem w_hears : about1.hears theMethod below0 = true := by decide +kernel
set_option maxRecDepth 65536 in
theorem w_ripe : about1.ripe theMethod args0 below0 = true := by decide +kernel
theorem w_running : about1.status = .running := rfl
set_option maxRecDepth 65536 in
theorem w_room : about1.hasRoom e0.platform room_1 = true :=
  launch0.hasRoom_least _ room_1 (by decide +kernel) (by decide +kernel) (by decide +kernel) (by decide +kernel) (by decide +kernel) (by decide +kernel)
theorem allAtoms_all (ts : List Jvm.Cond) (a : Array Jvm.Value) (st : Jvm.State) : (allAtoms ts).before a st = ts.all (fun c => c.before a st) := by
  induction ts with
  | nil => rfl
  | cons c t ih =>
    show (Jvm.Cond.and c (allAtoms t)).before a st = _
    rw [Jvm.Cond.before_and, ih, List.all_cons]
def words1 : List Jvm.Cond := Jvm.Cond.code x code maxLocals ret :: tables_1
/-- a 'code' word, met by the world's own term for the bytes: nothing is compared byte by byte -/
theorem code_word {y : MethodName} {bytes : ByteArray} {mx : Nat} {rt : Option FieldType} {a : Array Value} {s : State} {m : MethodId} {meth : Method} {c : Code} (h1 : s.methodNamed? y = some m) (h2 : s.vm.method? m = some meth) (h3 : meth.code = some c) (h4 : c.code = bytes)
    (h5 : (c.maxLocals == mx && c.exceptionTable.isEmpty && decide (c.maxStack ≤ mostOperands) && decide (meth.sig.returnType = rt) && !meth.locks && decide (parseMethodDescriptor y.desc = some meth.sig)) = true) : (Jvm.Cond.code y bytes mx rt).before a s = true := by
  simp only [Bool.and_eq_true, beq_iff_eq, Bool.not_eq_true', decide_eq_true_eq] at h5
  obtain ⟨⟨⟨⟨⟨g1, g2⟩, g3⟩, g4⟩, g5⟩, g6⟩ := h5
  simp [Cond.before, Cond.holds, Cond.value, h1, h2, h3, h4, g1, g2, g3, g4, g5, g6]
def isCode : Jvm.Cond → Bool
  | .code _ _ _ _ => true
  | _ => false
theorem all_split {L : List Jvm.Cond} {P : Jvm.Cond → Bool} (h1 : L.all (fun c => isCode c || P c) = true) (h2 : ∀ c ∈ L.filter isCode, P c = true) : L.all P = true := by
  refine List.all_eq_true.mpr fun c hc => ?_
  have h := List.all_eq_true.mp h1 c hc
  rcases Bool.eq_false_or_eq_true (isCode c) with hi | hi
  · exact h2 c (List.mem_filter.mpr ⟨hc, hi⟩)
  · simpa [hi] using h
set_option maxRecDepth 65536 in
theorem w_c0 : (Jvm.Cond.code x code maxLocals ret).before args0 about1 = true := code_word (m := ⟨1, 1⟩) (meth := k1m1) (c := k1c1) (by decide +kernel) rfl rfl rfl (by decide +kernel)
set_option maxRecDepth 65536 in
theorem w_c1 : (Jvm.Cond.code ({ cls := "com/example/one_lookup/onelookup/json/JsonMembersIsStringPinLaw", name := "fill", desc := "([BIIII)V" } : Jvm.MethodName) method_3_code (11 : Nat) (Option.none : Option Jvm.ClassFile.FieldType)).before args0 about1 = true := code_word (m := ⟨1, 2⟩) (meth := k1m2) (c := k1c2) (by decide +kernel) rfl rfl rfl (by decide +kernel)
set_option maxRecDepth 65536 in
theorem w_c2 : (Jvm.Cond.code ({ cls := "com/example/one_lookup/onelookup/json/JsonMembers", name := "<init>", desc := "([B)V" } : Jvm.MethodName) prog_23_method_1_code (2 : Nat) (Option.none : Option Jvm.ClassFile.FieldType)).before args0 about1 = true := code_word (m := ⟨2, 0⟩) (meth := k2m0) (c := k2c0) (by decide +kernel) rfl rfl rfl (by decide +kernel)
set_option maxRecDepth 65536 in
theorem w_c3 : (Jvm.Cond.code ({ cls := "com/example/one_lookup/onelookup/json/JsonMembers", name := "<init>", desc := "([BI)V" } : Jvm.MethodName) prog_23_method_2_code (3 : Nat) (Option.none : Option Jvm.ClassFile.FieldType)).before args0 about1 = true := code_word (m := ⟨2, 1⟩) (meth := k2m1) (c := k2c1) (by decide +kernel) rfl rfl rfl (by decide +kernel)
set_option maxRecDepth 65536 in
theorem w_c4 : (Jvm.Cond.code ({ cls := "java/lang/Object", name := "<init>", desc := "()V" } : Jvm.MethodName) object_method_1_code (1 : Nat) (Option.none : Option Jvm.ClassFile.FieldType)).before args0 about1 = true := code_word (m := ⟨0, 0⟩) (meth := k0m0) (c := k0c0) (by decide +kernel) rfl rfl rfl (by decide +kernel)
set_option maxRecDepth 65536 in
theorem w_c5 : (Jvm.Cond.code ({ cls := "com/example/one_lookup/onelookup/json/JsonMembers", name := "next", desc := "()Z" } : Jvm.MethodName) prog_23_method_3_code (4 : Nat) (Option.some Jvm.ClassFile.FieldType.boolean)).before args0 about1 = true := code_word (m := ⟨2, 2⟩) (meth := k2m2) (c := k2c2) (by decide +kernel) rfl rfl rfl (by decide +kernel)
set_option maxRecDepth 65536 in
theorem w_c6 : (Jvm.Cond.code ({ cls := "com/example/one_lookup/onelookup/json/JsonMembers", name := "space", desc := "(I)I" } : Jvm.MethodName) prog_23_method_10_code (3 : Nat) (Option.some Jvm.ClassFile.FieldType.int)).before args0 about1 = true := code_word (m := ⟨2, 4⟩) (meth := k2m4) (c := k2c4) (by decide +kernel) rfl rfl rfl (by decide +kernel)
set_option maxRecDepth 65536 in
theorem w_c7 : (Jvm.Cond.code ({ cls := "com/example/one_lookup/onelookup/json/JsonMembers", name := "isSpace", desc := "(B)Z" } : Jvm.MethodName) prog_23_method_19_code (1 : Nat) (Option.some Jvm.ClassFile.FieldType.boolean)).before args0 about1 = true := code_word (m := ⟨2, 9⟩) (meth := k2m9) (c := k2c9) (by decide +kernel) rfl rfl rfl (by decide +kernel)
set_option maxRecDepth 65536 in
theorem w_c8 : (Jvm.Cond.code ({ cls := "com/example/one_lookup/onelookup/json/JsonMembers", name := "string", desc := "(I)I" } : Jvm.MethodName) prog_23_method_13_code (3 : Nat) (Option.some Jvm.ClassFile.FieldType.int)).before args0 about1 = true := code_word (m := ⟨2, 7⟩) (meth := k2m7) (c := k2c7) (by decide +kernel) rfl rfl rfl (by decide +kernel)
set_option maxRecDepth 65536 in
theorem w_c9 : (Jvm.Cond.code ({ cls := "java/lang/Byte", name := "toUnsignedInt", desc := "(B)I" } : Jvm.MethodName) jdk_2056_method_24_code (1 : Nat) (Option.some Jvm.ClassFile.FieldType.int)).before args0 about1 = true := code_word (m := ⟨7, 0⟩) (meth := k7m0) (c := k7c0) (by decide +kernel) rfl rfl rfl (by decide +kernel)
set_option maxRecDepth 65536 in
theorem w_c10 : (Jvm.Cond.code ({ cls := "com/example/one_lookup/onelookup/json/JsonMembers", name := "value", desc := "(I)I" } : Jvm.MethodName) prog_23_method_11_code (4 : Nat) (Option.some Jvm.ClassFile.FieldType.int)).before args0 about1 = true := code_word (m := ⟨2, 5⟩) (meth := k2m5) (c := k2c5) (by decide +kernel) rfl rfl rfl (by decide +kernel)
set_option maxRecDepth 65536 in
theorem w_c11 : (Jvm.Cond.code ({ cls := "com/example/one_lookup/onelookup/json/JsonMembers", name := "isString", desc := "()Z" } : Jvm.MethodName) prog_23_method_5_code (1 : Nat) (Option.some Jvm.ClassFile.FieldType.boolean)).before args0 about1 = true := code_word (m := ⟨2, 3⟩) (meth := k2m3) (c := k2c3) (by decide +kernel) rfl rfl rfl (by decide +kernel)
set_option maxRecDepth 65536 in
theorem w_c12 : (Jvm.Cond.code ({ cls := "com/example/one_lookup/onelookup/json/JsonMembers", name := "endsScalar", desc := "(B)Z" } : Jvm.MethodName) prog_23_method_18_code (1 : Nat) (Option.some Jvm.ClassFile.FieldType.boolean)).before args0 about1 = true := code_word (m := ⟨2, 8⟩) (meth := k2m8) (c := k2c8) (by decide +kernel) rfl rfl rfl (by decide +kernel)
set_option maxRecDepth 65536 in
theorem w_c13 : (Jvm.Cond.code ({ cls := "com/example/one_lookup/onelookup/json/JsonMembers", name := "isDigit", desc := "(B)Z" } : Jvm.MethodName) prog_23_method_20_code (1 : Nat) (Option.some Jvm.ClassFile.FieldType.boolean)).before args0 about1 = true := code_word (m := ⟨2, 10⟩) (meth := k2m10) (c := k2c10) (by decide +kernel) rfl rfl rfl (by decide +kernel)
set_option maxRecDepth 65536 in
theorem w_c14 : (Jvm.Cond.code ({ cls := "com/example/one_lookup/onelookup/json/JsonMembers", name := "isLetter", desc := "(B)Z" } : Jvm.MethodName) prog_23_method_21_code (1 : Nat) (Option.some Jvm.ClassFile.FieldType.boolean)).before args0 about1 = true := code_word (m := ⟨2, 11⟩) (meth := k2m11) (c := k2c11) (by decide +kernel) rfl rfl rfl (by decide +kernel)
set_option maxRecDepth 65536 in
theorem w_c15 : (Jvm.Cond.code ({ cls := "com/example/one_lookup/onelookup/json/JsonMembers", name := "nested", desc := "(I)I" } : Jvm.MethodName) prog_23_method_12_code (5 : Nat) (Option.some Jvm.ClassFile.FieldType.int)).before args0 about1 = true := code_word (m := ⟨2, 6⟩) (meth := k2m6) (c := k2c6) (by decide +kernel) rfl rfl rfl (by decide +kernel)
def codes1 : List Jvm.Cond := [Jvm.Cond.code x code maxLocals ret, Jvm.Cond.code ({ cls := "com/example/one_lookup/onelookup/json/JsonMembersIsStringPinLaw", name := "fill", desc := "([BIIII)V" } : Jvm.MethodName) method_3_code (11 : Nat) (Option.none : Option Jvm.ClassFile.FieldType), Jvm.Cond.code ({ cls := "com/example/one_lookup/onelookup/json/JsonMembers", name := "<init>", desc := "([B)V" } : Jvm.MethodName) prog_23_method_1_code (2 : Nat) (Option.none : Option Jvm.ClassFile.FieldType), Jvm.Cond.code ({ cls := "com/example/one_lookup/onelookup/json/JsonMembers", name := "<init>", desc := "([BI)V" } : Jvm.MethodName) prog_23_method_2_code (3 : Nat) (Option.none : Option Jvm.ClassFile.FieldType), Jvm.Cond.code ({ cls := "java/lang/Object", name := "<init>", desc := "()V" } : Jvm.MethodName) object_method_1_code (1 : Nat) (Option.none : Option Jvm.ClassFile.FieldType), Jvm.Cond.code ({ cls := "com/example/one_lookup/onelookup/json/JsonMembers", name := "next", desc := "()Z" } : Jvm.MethodName) prog_23_method_3_code (4 : Nat) (Option.some Jvm.ClassFile.FieldType.boolean), Jvm.Cond.code ({ cls := "com/example/one_lookup/onelookup/json/JsonMembers", name := "space", desc := "(I)I" } : Jvm.MethodName) prog_23_method_10_code (3 : Nat) (Option.some Jvm.ClassFile.FieldType.int), Jvm.Cond.code ({ cls := "com/example/one_lookup/onelookup/json/JsonMembers", name := "isSpace", desc := "(B)Z" } : Jvm.MethodName) prog_23_method_19_code (1 : Nat) (Option.some Jvm.ClassFile.FieldType.boolean), Jvm.Cond.code ({ cls := "com/example/one_lookup/onelookup/json/JsonMembers", name := "string", desc := "(I)I" } : Jvm.MethodName) prog_23_method_13_code (3 : Nat) (Option.some Jvm.ClassFile.FieldType.int), Jvm.Cond.code ({ cls := "java/lang/Byte", name := "toUnsignedInt", desc := "(B)I" } : Jvm.MethodName) jdk_2056_method_24_code (1 : Nat) (Option.some Jvm.ClassFile.FieldType.int), Jvm.Cond.code ({ cls := "com/example/one_lookup/onelookup/json/JsonMembers", name := "value", desc := "(I)I" } : Jvm.MethodName) prog_23_method_11_code (4 : Nat) (Option.some Jvm.ClassFile.FieldType.int), Jvm.Cond.code ({ cls := "com/example/one_lookup/onelookup/json/JsonMembers", name := "isString", desc := "()Z" } : Jvm.MethodName) prog_23_method_5_code (1 : Nat) (Option.some Jvm.ClassFile.FieldType.boolean), Jvm.Cond.code ({ cls := "com/example/one_lookup/onelookup/json/JsonMembers", name := "endsScalar", desc := "(B)Z" } : Jvm.MethodName) prog_23_method_18_code (1 : Nat) (Option.some Jvm.ClassFile.FieldType.boolean), Jvm.Cond.code ({ cls := "com/example/one_lookup/onelookup/json/JsonMembers", name := "isDigit", desc := "(B)Z" } : Jvm.MethodName) prog_23_method_20_code (1 : Nat) (Option.some Jvm.ClassFile.FieldType.boolean), Jvm.Cond.code ({ cls := "com/example/one_lookup/onelookup/json/JsonMembers", name := "isLetter", desc := "(B)Z" } : Jvm.MethodName) prog_23_method_21_code (1 : Nat) (Option.some Jvm.ClassFile.FieldType.boolean), Jvm.Cond.code ({ cls := "com/example/one_lookup/onelookup/json/JsonMembers", name := "nested", desc := "(I)I" } : Jvm.MethodName) prog_23_method_12_code (5 : Nat) (Option.some Jvm.ClassFile.FieldType.int)]
set_option maxRecDepth 65536 in
theorem codes_eq : words1.filter isCode = codes1 := rfl
theorem w_codes : ∀ c ∈ words1.filter isCode, c.before args0 about1 = true := by
  rw [codes_eq]
  intro c hc
  simp only [codes1, List.mem_cons, List.not_mem_nil, or_false] at hc
  rcases hc with rfl | rfl | rfl | rfl | rfl | rfl | rfl | rfl | rfl | rfl | rfl | rfl | rfl | rfl | rfl | rfl
  · exact w_c0
  · exact w_c1
  · exact w_c2
  · exact w_c3
  · exact w_c4
  · exact w_c5
  · exact w_c6
  · exact w_c7
  · exact w_c8
  · exact w_c9
  · exact w_c10
  · exact w_c11
  · exact w_c12
  · exact w_c13
  · exact w_c14
  · exact w_c15
set_option maxRecDepth 65536 in
theorem w_t1 : (words1.take 24).all (fun c => isCode c || c.before args0 about1) = true := by decide +kernel
set_option maxRecDepth 65536 in
theorem w_t2 : ((words1.drop 24).take 24).all (fun c => isCode c || c.before args0 about1) = true := by decide +kernel
set_option maxRecDepth 65536 in
theorem w_t3 : (((words1.drop 24).drop 24).take 24).all (fun c => isCode c || c.before args0 about1) = true := by decide +kernel
set_option maxRecDepth 65536 in
theorem w_t4 : (((words1.drop 24).drop 24).drop 24).all (fun c => isCode c || c.before args0 about1) = true := by decide +kernel
theorem w_tables : (allAtoms (Jvm.Cond.code x code maxLocals ret :: tables_1)).before args0 about1 = true := by
  rw [allAtoms_all]
  show words1.all (fun c => c.before args0 about1) = true
  refine all_split ?_ w_codes
  rw [← List.take_append_drop 24 words1, List.all_append, w_t1, ← List.take_append_drop 24 (words1.drop 24), List.all_append, w_t2, ← List.take_append_drop 24 ((words1.drop 24).drop 24), List.all_append, w_t3, w_t4]
  rfl
set_option maxRecDepth 65536 in
theorem w_case : (Jvm.Cond.and given_1 narrow_1).before args0 about1 = true := by decide +kernel
theorem w_applies : (headSpec (Jvm.Cond.code x code maxLocals ret :: tables_1) room_1).applies x e0.platform about1 = true :=
  (Spec.applies_iff w_frames).mpr ⟨w_running, w_runnable, w_alone, w_named, w_hears, w_ripe, w_room, w_tables⟩
theorem atStart : AtStart classFile x code maxLocals ret World_1 tables_1 room_1 Calls_1 rest_1 Pre_1 launch0 p0 e0 about1 theMethod args0 below0 :=
  ⟨lists_1, trivial, launch0.admits_env _ _ _, launch0.least_env, fairChoices_fair.cas, fairChoices_fair.clock, w_frames, w_args, w_heap, w_applies, trivial, trivial, w_case⟩
end start1
theorem witness_1 : WitnessClaimed_1 := ⟨start1.p0, start1.e0, start1.about1, start1.theMethod, start1.args0, start1.below0, start1.atStart⟩
end Jvm.Pilot.@@N@@
