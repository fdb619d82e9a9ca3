import JvmDerived
import JvmDerived.Pilot.@@N@@Statement
import JvmDerived.Pilot.@@N@@Code
set_option linter.unusedVariables false
set_option linter.unusedSimpArgs false
namespace Jvm.Pilot.@@N@@
open Jvm Jvm.ClassFile Sem Op Lib Jvm.Free Jvm.Stand Jvm.LawKit Jvm.RoadKit Bundle Jvm.Pilot.@@N@@.Jvm.D
/-- Java's x >>> y -/
def ushr (x y : Int32) : Int32 := (x.toUInt32 >>> (y &&& 31).toUInt32).toInt32
def ushrL (x : Int64) (y : Int32) : Int64 := (x.toUInt64 >>> (y &&& 0x3f).toInt64.toUInt64).toInt64
/-- what lcmp pushes -/
abbrev cmpL (x y : Int64) : Int32 := lcmpW x y
section Own
variable {p : Program} {l : Launch} {e : Env} {R : Room} {s : State} {m : MethodId} {args : Array Value} {below : List Frame} {meth : Method} {c : Code} {T : State} {locs : List Loc} {cells slots : Nat} {Z : State} {a0 : Array Value} {h : Heap} {Q : Option Value → Heap → List Loc → Prop} {K N pc : Nat} {Ls : Array Slot} {code : ByteArray} {rest : List Value}
/-- the run from here ends: the method returns, Q says what and over which heap -/
def Ends (p : Program) (e : Env) (below : List Frame) (s : State) (Q : Option Value → Heap → List Loc → Prop) (K N : Nat) (T : State) : Prop :=
  ∃ s₂ o, Steps p.tables e below T s₂ ∧ s₂.status = .running ∧ Ended s₂ below o ∧ ∃ v L, o = .returned v ∧ Q v s₂.heap L ∧ FrameEnd s o s₂ L K N
theorem Ends.step {T T' : State} (st : ∀ t, Steps p.tables e below T' t → Steps p.tables e below T t) (h : Ends p e below s Q K N T') : Ends p e below s Q K N T := by
  obtain ⟨s2, o, h1, h2⟩ := h
  exact ⟨s2, o, st _ h1, h2⟩
def Cx (p : Program) (c : Code) (code : ByteArray) : Prop := p.tables.exec = Jvm.exec ∧ c.code = code
/-- a method's contract -/
def Con (l : Launch) (Z : State) (y : MethodName) (bytes : ByteArray) (maxL : Nat) (ret : Option FieldType) (rm : Room) (K N : Nat) (ws : List Jvm.Cond) (as' : Array Value) (h : Heap) (Q : Option Value → Heap → List Loc → Prop) : Prop :=
  MetFree l y (head1 (Jvm.Cond.code y bytes maxL ret :: ws) rm) (fun a U => a = as' ∧ Z.Warmed39 U.vm ∧ U.heap = h) (fun _ _ _ _ _ => True) (fun _ U o U' => ∃ v L, o = .returned v ∧ Q v U'.heap L ∧ FrameEnd U o U' L K N)
theorem Con.of {y : MethodName} {bytes : ByteArray} {maxL : Nat} {ret : Option FieldType} {rm : Room} {ws : List Jvm.Cond} {as' : Array Value} (hn : plainFor y = true)
    (body : ∀ (p : Program) (e : Env) (s : State) (m : MethodId) (below : List Frame) (meth : Method) (c : Code) (T : State), Cx p c bytes → Z.Warmed39 s.vm → c.maxLocals = maxL → s.vm.findClass y.cls = some m.cls → meth.sig.returnType = ret → meth.name = y.name → meth.locks = false →
      Stand p l e rm s m as' below meth c T [] 0 0 → T.heap = h → Ends p e below s Q K N (T.setTop (entryFrame m as' maxL))) : Con l Z y bytes maxL ret rm K N ws as' h Q := by
  refine MetFree.of_bodySF hn hisR ?_
  intro p e s m args below meth c s₁ Bd hml0 hP hK
  obtain ⟨rfl, hZ, hh⟩ := hP
  exact body p e s m below meth c s₁ ⟨Bd.exec, Bd.bytes⟩ hZ hml0 (findClass_of_methodNamed Bd.named) Bd.returns (name_of_methodNamed Bd.named Bd.method).1 Bd.notSynchronized (Stand.of_body Bd) (by rw [← hh, Bd.state]; rfl)
theorem o_iadd (C : Cx p c code) (X : Stand p l e R s m args below meth c T locs cells slots) {x y : Int32} (hd : decode code pc = .ok (.iadd, 1)) (q : Nat) (hq : pc + 1 = q) (k : Ends p e below s Q K N (T.setTop (mkF m q Ls (.int (x + y) :: rest)))) : Ends p e below s Q K N (T.setTop (mkF m pc Ls (.int y :: .int x :: rest))) := by
  subst hq
  exact .step (fun _ t => XS.iadd X.here C.1 rfl (hb C.2 hd) rfl t) k
theorem o_isub (C : Cx p c code) (X : Stand p l e R s m args below meth c T locs cells slots) {x y : Int32} (hd : decode code pc = .ok (.isub, 1)) (q : Nat) (hq : pc + 1 = q) (k : Ends p e below s Q K N (T.setTop (mkF m q Ls (.int (x - y) :: rest)))) : Ends p e below s Q K N (T.setTop (mkF m pc Ls (.int y :: .int x :: rest))) := by
  subst hq
  exact .step (fun _ t => XS.isub X.here C.1 rfl (hb C.2 hd) rfl t) k
theorem o_imul (C : Cx p c code) (X : Stand p l e R s m args below meth c T locs cells slots) {x y : Int32} (hd : decode code pc = .ok (.imul, 1)) (q : Nat) (hq : pc + 1 = q) (k : Ends p e below s Q K N (T.setTop (mkF m q Ls (.int (x * y) :: rest)))) : Ends p e below s Q K N (T.setTop (mkF m pc Ls (.int y :: .int x :: rest))) := by
  subst hq
  exact .step (fun _ t => XS.imul X.here C.1 rfl (hb C.2 hd) rfl t) k
theorem o_iand (C : Cx p c code) (X : Stand p l e R s m args below meth c T locs cells slots) {x y : Int32} (hd : decode code pc = .ok (.iand, 1)) (q : Nat) (hq : pc + 1 = q) (k : Ends p e below s Q K N (T.setTop (mkF m q Ls (.int (x &&& y) :: rest)))) : Ends p e below s Q K N (T.setTop (mkF m pc Ls (.int y :: .int x :: rest))) := by
  subst hq
  exact .step (fun _ t => XS.iand X.here C.1 rfl (hb C.2 hd) rfl t) k
theorem o_ior (C : Cx p c code) (X : Stand p l e R s m args below meth c T locs cells slots) {x y : Int32} (hd : decode code pc = .ok (.ior, 1)) (q : Nat) (hq : pc + 1 = q) (k : Ends p e below s Q K N (T.setTop (mkF m q Ls (.int (x ||| y) :: rest)))) : Ends p e below s Q K N (T.setTop (mkF m pc Ls (.int y :: .int x :: rest))) := by
  subst hq
  exact .step (fun _ t => XS.ior X.here C.1 rfl (hb C.2 hd) rfl t) k
theorem o_ixor (C : Cx p c code) (X : Stand p l e R s m args below meth c T locs cells slots) {x y : Int32} (hd : decode code pc = .ok (.ixor, 1)) (q : Nat) (hq : pc + 1 = q) (k : Ends p e below s Q K N (T.setTop (mkF m q Ls (.int (x ^^^ y) :: rest)))) : Ends p e below s Q K N (T.setTop (mkF m pc Ls (.int y :: .int x :: rest))) := by
  subst hq
  exact .step (fun _ t => XS.ixor X.here C.1 rfl (hb C.2 hd) rfl t) k
theorem o_ishl (C : Cx p c code) (X : Stand p l e R s m args below meth c T locs cells slots) {x y : Int32} (hd : decode code pc = .ok (.ishl, 1)) (q : Nat) (hq : pc + 1 = q) (k : Ends p e below s Q K N (T.setTop (mkF m q Ls (.int (x <<< (y &&& 31)) :: rest)))) : Ends p e below s Q K N (T.setTop (mkF m pc Ls (.int y :: .int x :: rest))) := by
  subst hq
  exact .step (fun _ t => XS.ishl X.here C.1 rfl (hb C.2 hd) rfl t) k
theorem o_ishr (C : Cx p c code) (X : Stand p l e R s m args below meth c T locs cells slots) {x y : Int32} (hd : decode code pc = .ok (.ishr, 1)) (q : Nat) (hq : pc + 1 = q) (k : Ends p e below s Q K N (T.setTop (mkF m q Ls (.int (x >>> (y &&& 31)) :: rest)))) : Ends p e below s Q K N (T.setTop (mkF m pc Ls (.int y :: .int x :: rest))) := by
  subst hq
  exact .step (fun _ t => XS.ishr X.here C.1 rfl (hb C.2 hd) rfl t) k
theorem o_iushr (C : Cx p c code) (X : Stand p l e R s m args below meth c T locs cells slots) {x y : Int32} (hd : decode code pc = .ok (.iushr, 1)) (q : Nat) (hq : pc + 1 = q) (k : Ends p e below s Q K N (T.setTop (mkF m q Ls (.int (ushr x y) :: rest)))) : Ends p e below s Q K N (T.setTop (mkF m pc Ls (.int y :: .int x :: rest))) := by
  subst hq
  exact .step (fun _ t => XS.iushr X.here C.1 rfl (hb C.2 hd) rfl t) k
theorem o_irem (C : Cx p c code) (X : Stand p l e R s m args below meth c T locs cells slots) {x y : Int32} (hd : decode code pc = .ok (.irem, 1)) (q : Nat) (hq : pc + 1 = q) (hy : y ≠ 0) (k : Ends p e below s Q K N (T.setTop (mkF m q Ls (.int (x % y) :: rest)))) : Ends p e below s Q K N (T.setTop (mkF m pc Ls (.int y :: .int x :: rest))) := by
  subst hq
  exact .step (fun _ t => iremM X C.1 rfl (hb C.2 hd) rfl hy t) k
theorem o_idiv (C : Cx p c code) (X : Stand p l e R s m args below meth c T locs cells slots) {x y : Int32} (hd : decode code pc = .ok (.idiv, 1)) (q : Nat) (hq : pc + 1 = q) (hy : y ≠ 0) (k : Ends p e below s Q K N (T.setTop (mkF m q Ls (.int (x / y) :: rest)))) : Ends p e below s Q K N (T.setTop (mkF m pc Ls (.int y :: .int x :: rest))) := by
  subst hq
  exact .step (fun _ t => XS.idiv X.here C.1 rfl (hb C.2 hd) rfl hy t) k
theorem o_ladd (C : Cx p c code) (X : Stand p l e R s m args below meth c T locs cells slots) {x y : Int64} (hd : decode code pc = .ok (.ladd, 1)) (q : Nat) (hq : pc + 1 = q) (k : Ends p e below s Q K N (T.setTop (mkF m q Ls (.long (x + y) :: rest)))) : Ends p e below s Q K N (T.setTop (mkF m pc Ls (.long y :: .long x :: rest))) := by
  subst hq
  exact .step (fun _ t => XS.ladd X.here C.1 rfl (hb C.2 hd) rfl t) k
theorem o_lsub (C : Cx p c code) (X : Stand p l e R s m args below meth c T locs cells slots) {x y : Int64} (hd : decode code pc = .ok (.lsub, 1)) (q : Nat) (hq : pc + 1 = q) (k : Ends p e below s Q K N (T.setTop (mkF m q Ls (.long (x - y) :: rest)))) : Ends p e below s Q K N (T.setTop (mkF m pc Ls (.long y :: .long x :: rest))) := by
  subst hq
  exact .step (fun _ t => XS.lsub X.here C.1 rfl (hb C.2 hd) rfl t) k
theorem o_land (C : Cx p c code) (X : Stand p l e R s m args below meth c T locs cells slots) {x y : Int64} (hd : decode code pc = .ok (.land, 1)) (q : Nat) (hq : pc + 1 = q) (k : Ends p e below s Q K N (T.setTop (mkF m q Ls (.long (x &&& y) :: rest)))) : Ends p e below s Q K N (T.setTop (mkF m pc Ls (.long y :: .long x :: rest))) := by
  subst hq
  exact .step (fun _ t => XS.land X.here C.1 rfl (hb C.2 hd) rfl t) k
theorem o_lor (C : Cx p c code) (X : Stand p l e R s m args below meth c T locs cells slots) {x y : Int64} (hd : decode code pc = .ok (.lor, 1)) (q : Nat) (hq : pc + 1 = q) (k : Ends p e below s Q K N (T.setTop (mkF m q Ls (.long (x ||| y) :: rest)))) : Ends p e below s Q K N (T.setTop (mkF m pc Ls (.long y :: .long x :: rest))) := by
  subst hq
  exact .step (fun _ t => XS.lor X.here C.1 rfl (hb C.2 hd) rfl t) k
theorem o_lxor (C : Cx p c code) (X : Stand p l e R s m args below meth c T locs cells slots) {x y : Int64} (hd : decode code pc = .ok (.lxor, 1)) (q : Nat) (hq : pc + 1 = q) (k : Ends p e below s Q K N (T.setTop (mkF m q Ls (.long (x ^^^ y) :: rest)))) : Ends p e below s Q K N (T.setTop (mkF m pc Ls (.long y :: .long x :: rest))) := by
  subst hq
  exact .step (fun _ t => XS.lxor X.here C.1 rfl (hb C.2 hd) rfl t) k
theorem o_lushr (C : Cx p c code) (X : Stand p l e R s m args below meth c T locs cells slots) {x : Int64} {y : Int32} (hd : decode code pc = .ok (.lushr, 1)) (q : Nat) (hq : pc + 1 = q) (k : Ends p e below s Q K N (T.setTop (mkF m q Ls (.long (ushrL x y) :: rest)))) : Ends p e below s Q K N (T.setTop (mkF m pc Ls (.int y :: .long x :: rest))) := by
  subst hq
  exact .step (fun _ t => XS.lushr X.here C.1 rfl (hb C.2 hd) rfl t) k
theorem o_lcmp (C : Cx p c code) (X : Stand p l e R s m args below meth c T locs cells slots) {x y : Int64} (hd : decode code pc = .ok (.lcmp, 1)) (q : Nat) (hq : pc + 1 = q) (k : Ends p e below s Q K N (T.setTop (mkF m q Ls (.int (cmpL x y) :: rest)))) : Ends p e below s Q K N (T.setTop (mkF m pc Ls (.long y :: .long x :: rest))) := by
  subst hq
  exact .step (fun _ t => XS.lcmp X.here C.1 rfl (hb C.2 hd) rfl t) k
theorem o_i2l (C : Cx p c code) (X : Stand p l e R s m args below meth c T locs cells slots) {x : Int32} (hd : decode code pc = .ok (.i2l, 1)) (q : Nat) (hq : pc + 1 = q) (k : Ends p e below s Q K N (T.setTop (mkF m q Ls (.long x.toInt64 :: rest)))) : Ends p e below s Q K N (T.setTop (mkF m pc Ls (.int x :: rest))) := by
  subst hq
  exact .step (fun _ t => XS.i2l X.here C.1 rfl (hb C.2 hd) rfl t) k
theorem o_l2i (C : Cx p c code) (X : Stand p l e R s m args below meth c T locs cells slots) {x : Int64} (hd : decode code pc = .ok (.l2i, 1)) (q : Nat) (hq : pc + 1 = q) (k : Ends p e below s Q K N (T.setTop (mkF m q Ls (.int x.toInt32 :: rest)))) : Ends p e below s Q K N (T.setTop (mkF m pc Ls (.long x :: rest))) := by
  subst hq
  exact .step (fun _ t => XS.l2i X.here C.1 rfl (hb C.2 hd) rfl t) k
theorem o_i2b (C : Cx p c code) (X : Stand p l e R s m args below meth c T locs cells slots) {x : Int32} (hd : decode code pc = .ok (.i2b, 1)) (q : Nat) (hq : pc + 1 = q) (k : Ends p e below s Q K N (T.setTop (mkF m q Ls (.int x.toInt8.toInt32 :: rest)))) : Ends p e below s Q K N (T.setTop (mkF m pc Ls (.int x :: rest))) := by
  subst hq
  exact .step (fun _ t => XS.i2b X.here C.1 rfl (hb C.2 hd) rfl t) k
theorem o_i2c (C : Cx p c code) (X : Stand p l e R s m args below meth c T locs cells slots) {x : Int32} (hd : decode code pc = .ok (.i2c, 1)) (q : Nat) (hq : pc + 1 = q) (k : Ends p e below s Q K N (T.setTop (mkF m q Ls (.int x.toUInt32.toUInt16.toUInt32.toInt32 :: rest)))) : Ends p e below s Q K N (T.setTop (mkF m pc Ls (.int x :: rest))) := by
  subst hq
  exact .step (fun _ t => XS.i2c X.here C.1 rfl (hb C.2 hd) rfl t) k
theorem o_iconst (C : Cx p c code) (X : Stand p l e R s m args below meth c T locs cells slots) {i : Int} (hd : decode code pc = .ok (.iconst i, 1)) (q : Nat) (hq : pc + 1 = q) (v : Int32) (hv : Int32.ofInt i = v) (k : Ends p e below s Q K N (T.setTop (mkF m q Ls (.int v :: rest)))) : Ends p e below s Q K N (T.setTop (mkF m pc Ls rest)) := by
  subst hq
  exact .step (fun _ t => XS.iconst X.here C.1 rfl (hb C.2 hd) (by rw [hv]; exact t)) k
theorem o_bipush (C : Cx p c code) (X : Stand p l e R s m args below meth c T locs cells slots) {i : Int} (hd : decode code pc = .ok (.bipush i, 2)) (q : Nat) (hq : pc + 2 = q) (v : Int32) (hv : (Int8.ofInt i).toInt32 = v) (k : Ends p e below s Q K N (T.setTop (mkF m q Ls (.int v :: rest)))) : Ends p e below s Q K N (T.setTop (mkF m pc Ls rest)) := by
  subst hq
  exact .step (fun _ t => XS.bipush X.here C.1 rfl (hb C.2 hd) (by rw [hv]; exact t)) k
theorem o_sipush (C : Cx p c code) (X : Stand p l e R s m args below meth c T locs cells slots) {i : Int} (hd : decode code pc = .ok (.sipush i, 3)) (q : Nat) (hq : pc + 3 = q) (v : Int32) (hv : (Int16.ofInt i).toInt32 = v) (k : Ends p e below s Q K N (T.setTop (mkF m q Ls (.int v :: rest)))) : Ends p e below s Q K N (T.setTop (mkF m pc Ls rest)) := by
  subst hq
  exact .step (fun _ t => XS.sipush X.here C.1 rfl (hb C.2 hd) (by rw [hv]; exact t)) k
theorem o_lconst (C : Cx p c code) (X : Stand p l e R s m args below meth c T locs cells slots) {i : Fin 2} (hd : decode code pc = .ok (.lconst i, 1)) (q : Nat) (hq : pc + 1 = q) (v : Int64) (hv : Int64.ofNat i = v) (k : Ends p e below s Q K N (T.setTop (mkF m q Ls (.long v :: rest)))) : Ends p e below s Q K N (T.setTop (mkF m pc Ls rest)) := by
  subst hq
  exact .step (fun _ t => XS.lconst X.here C.1 rfl (hb C.2 hd) (by rw [hv]; exact t)) k
theorem o_aconst_null (C : Cx p c code) (X : Stand p l e R s m args below meth c T locs cells slots) (hd : decode code pc = .ok (.aconst_null, 1)) (q : Nat) (hq : pc + 1 = q) (k : Ends p e below s Q K N (T.setTop (mkF m q Ls (.null :: rest)))) : Ends p e below s Q K N (T.setTop (mkF m pc Ls rest)) := by
  subst hq
  exact .step (fun _ t => XS.aconstNull X.here C.1 rfl (hb C.2 hd) t) k
theorem o_dup (C : Cx p c code) (X : Stand p l e R s m args below meth c T locs cells slots) {x : Value} (hd : decode code pc = .ok (.dup, 1)) (q : Nat) (hq : pc + 1 = q) (hc : x.category = 1) (k : Ends p e below s Q K N (T.setTop (mkF m q Ls (x :: x :: rest)))) : Ends p e below s Q K N (T.setTop (mkF m pc Ls (x :: rest))) := by
  subst hq
  exact .step (fun _ t => XS.dup X.here C.1 rfl (hb C.2 hd) rfl hc t) k
theorem o_dup_x1 (C : Cx p c code) (X : Stand p l e R s m args below meth c T locs cells slots) {x y : Value} (hd : decode code pc = .ok (.dup_x1, 1)) (q : Nat) (hq : pc + 1 = q) (hc : x.category = 1) (hc' : y.category = 1) (k : Ends p e below s Q K N (T.setTop (mkF m q Ls (x :: y :: x :: rest)))) : Ends p e below s Q K N (T.setTop (mkF m pc Ls (x :: y :: rest))) := by
  subst hq
  exact .step (fun _ t => XS.dupX1 X.here C.1 rfl (hb C.2 hd) rfl hc hc' t) k
theorem o_pop (C : Cx p c code) (X : Stand p l e R s m args below meth c T locs cells slots) {x : Value} (hd : decode code pc = .ok (.pop, 1)) (q : Nat) (hq : pc + 1 = q) (hc : x.category = 1) (k : Ends p e below s Q K N (T.setTop (mkF m q Ls rest))) : Ends p e below s Q K N (T.setTop (mkF m pc Ls (x :: rest))) := by
  subst hq
  exact .step (fun _ t => XS.pop X.here C.1 rfl (hb C.2 hd) rfl hc t) k
theorem o_iloadN (C : Cx p c code) (X : Stand p l e R s m args below meth c T locs cells slots) {i : Fin 4} {v : Int32} (hd : decode code pc = .ok (.iload_n i, 1)) (q : Nat) (hq : pc + 1 = q) (hl : Ls[i.val]? = some (.val (.int v))) (k : Ends p e below s Q K N (T.setTop (mkF m q Ls (.int v :: rest)))) : Ends p e below s Q K N (T.setTop (mkF m pc Ls rest)) := by
  subst hq
  exact .step (fun _ t => XS.iloadN X.here C.1 rfl (hb C.2 hd) hl t) k
theorem o_iload (C : Cx p c code) (X : Stand p l e R s m args below meth c T locs cells slots) {i : Nat} {v : Int32} (hd : decode code pc = .ok (.iload i, 2)) (q : Nat) (hq : pc + 2 = q) (hl : Ls[i]? = some (.val (.int v))) (k : Ends p e below s Q K N (T.setTop (mkF m q Ls (.int v :: rest)))) : Ends p e below s Q K N (T.setTop (mkF m pc Ls rest)) := by
  subst hq
  exact .step (fun _ t => XS.iload X.here C.1 rfl (hb C.2 hd) hl t) k
theorem o_lloadN (C : Cx p c code) (X : Stand p l e R s m args below meth c T locs cells slots) {i : Fin 4} {v : Int64} (hd : decode code pc = .ok (.lload_n i, 1)) (q : Nat) (hq : pc + 1 = q) (hl : Ls[i.val]? = some (.val (.long v))) (k : Ends p e below s Q K N (T.setTop (mkF m q Ls (.long v :: rest)))) : Ends p e below s Q K N (T.setTop (mkF m pc Ls rest)) := by
  subst hq
  exact .step (fun _ t => XS.lloadN X.here C.1 rfl (hb C.2 hd) hl t) k
theorem o_lload (C : Cx p c code) (X : Stand p l e R s m args below meth c T locs cells slots) {i : Nat} {v : Int64} (hd : decode code pc = .ok (.lload i, 2)) (q : Nat) (hq : pc + 2 = q) (hl : Ls[i]? = some (.val (.long v))) (k : Ends p e below s Q K N (T.setTop (mkF m q Ls (.long v :: rest)))) : Ends p e below s Q K N (T.setTop (mkF m pc Ls rest)) := by
  subst hq
  exact .step (fun _ t => XS.lload X.here C.1 rfl (hb C.2 hd) hl t) k
theorem o_aloadN (C : Cx p c code) (X : Stand p l e R s m args below meth c T locs cells slots) {i : Fin 4} {v : Value} (hd : decode code pc = .ok (.aload_n i, 1)) (q : Nat) (hq : pc + 1 = q) (hl : Ls[i.val]? = some (.val v)) (hv : v.isRef = true) (k : Ends p e below s Q K N (T.setTop (mkF m q Ls (v :: rest)))) : Ends p e below s Q K N (T.setTop (mkF m pc Ls rest)) := by
  subst hq
  exact .step (fun _ t => XS.aloadN X.here C.1 rfl (hb C.2 hd) hl hv t) k
theorem o_aload (C : Cx p c code) (X : Stand p l e R s m args below meth c T locs cells slots) {i : Nat} {v : Value} (hd : decode code pc = .ok (.aload i, 2)) (q : Nat) (hq : pc + 2 = q) (hl : Ls[i]? = some (.val v)) (hv : v.isRef = true) (k : Ends p e below s Q K N (T.setTop (mkF m q Ls (v :: rest)))) : Ends p e below s Q K N (T.setTop (mkF m pc Ls rest)) := by
  subst hq
  exact .step (fun _ t => XS.aload X.here C.1 rfl (hb C.2 hd) hl hv t) k
theorem o_istoreN (C : Cx p c code) (X : Stand p l e R s m args below meth c T locs cells slots) {i : Fin 4} {x : Int32} (hd : decode code pc = .ok (.istore_n i, 1)) (q : Nat) (hq : pc + 1 = q) (l' : Array Slot) (hl : storeLocals Ls i.val (.int x) = some l') (k : Ends p e below s Q K N (T.setTop (mkF m q l' rest))) : Ends p e below s Q K N (T.setTop (mkF m pc Ls (.int x :: rest))) := by
  subst hq
  exact .step (fun _ t => XS.istoreN X.here C.1 rfl (hb C.2 hd) rfl hl t) k
theorem o_istore (C : Cx p c code) (X : Stand p l e R s m args below meth c T locs cells slots) {i : Nat} {x : Int32} (hd : decode code pc = .ok (.istore i, 2)) (q : Nat) (hq : pc + 2 = q) (l' : Array Slot) (hl : storeLocals Ls i (.int x) = some l') (k : Ends p e below s Q K N (T.setTop (mkF m q l' rest))) : Ends p e below s Q K N (T.setTop (mkF m pc Ls (.int x :: rest))) := by
  subst hq
  exact .step (fun _ t => XS.istore X.here C.1 rfl (hb C.2 hd) rfl hl t) k
theorem o_lstoreN (C : Cx p c code) (X : Stand p l e R s m args below meth c T locs cells slots) {i : Fin 4} {x : Int64} (hd : decode code pc = .ok (.lstore_n i, 1)) (q : Nat) (hq : pc + 1 = q) (l' : Array Slot) (hl : storeLocals Ls i.val (.long x) = some l') (k : Ends p e below s Q K N (T.setTop (mkF m q l' rest))) : Ends p e below s Q K N (T.setTop (mkF m pc Ls (.long x :: rest))) := by
  subst hq
  exact .step (fun _ t => XS.lstoreN X.here C.1 rfl (hb C.2 hd) rfl hl t) k
theorem o_lstore (C : Cx p c code) (X : Stand p l e R s m args below meth c T locs cells slots) {i : Nat} {x : Int64} (hd : decode code pc = .ok (.lstore i, 2)) (q : Nat) (hq : pc + 2 = q) (l' : Array Slot) (hl : storeLocals Ls i (.long x) = some l') (k : Ends p e below s Q K N (T.setTop (mkF m q l' rest))) : Ends p e below s Q K N (T.setTop (mkF m pc Ls (.long x :: rest))) := by
  subst hq
  exact .step (fun _ t => XS.lstore X.here C.1 rfl (hb C.2 hd) rfl hl t) k
theorem o_astoreN (C : Cx p c code) (X : Stand p l e R s m args below meth c T locs cells slots) {i : Fin 4} {x : Value} (hd : decode code pc = .ok (.astore_n i, 1)) (q : Nat) (hq : pc + 1 = q) (hv : x.isRef = true) (l' : Array Slot) (hl : storeLocals Ls i.val x = some l') (k : Ends p e below s Q K N (T.setTop (mkF m q l' rest))) : Ends p e below s Q K N (T.setTop (mkF m pc Ls (x :: rest))) := by
  subst hq
  exact .step (fun _ t => XS.astoreN X.here C.1 rfl (hb C.2 hd) rfl hv hl t) k
theorem o_astore (C : Cx p c code) (X : Stand p l e R s m args below meth c T locs cells slots) {i : Nat} {x : Value} (hd : decode code pc = .ok (.astore i, 2)) (q : Nat) (hq : pc + 2 = q) (hv : x.isRef = true) (l' : Array Slot) (hl : storeLocals Ls i x = some l') (k : Ends p e below s Q K N (T.setTop (mkF m q l' rest))) : Ends p e below s Q K N (T.setTop (mkF m pc Ls (x :: rest))) := by
  subst hq
  exact .step (fun _ t => XS.astore X.here C.1 rfl (hb C.2 hd) rfl hv hl t) k
theorem o_iinc (C : Cx p c code) (X : Stand p l e R s m args below meth c T locs cells slots) {i : Nat} {cst : Int} {x : Int32} (v : Int32) (hd : decode code pc = .ok (.iinc i cst, 3)) (q : Nat) (hq : pc + 3 = q) (l' : Array Slot) (hl : Ls[i]? = some (.val (.int x))) (hv : x + Int32.ofInt cst = v) (hl' : storeLocals Ls i (.int v) = some l') (k : Ends p e below s Q K N (T.setTop (mkF m q l' rest))) : Ends p e below s Q K N (T.setTop (mkF m pc Ls rest)) := by
  subst hq hv
  exact .step (fun _ t => XS.iinc X.here C.1 rfl (hb C.2 hd) hl hl' t) k
theorem o_goto (C : Cx p c code) (X : Stand p l e R s m args below meth c T locs cells slots) {o : Int} (hd : decode code pc = .ok (.goto o, 3)) (q : Nat) (ho : 0 ≤ (pc : Int) + o) (hq : ((pc : Int) + o).toNat = q) (k : Ends p e below s Q K N (T.setTop (mkF m q Ls rest))) : Ends p e below s Q K N (T.setTop (mkF m pc Ls rest)) := by
  exact .step (fun _ t => XS.goto X.here C.1 rfl (pc0 := pc) rfl (hb C.2 hd) ho hq t) k
theorem o_ifY (C : Cx p c code) (X : Stand p l e R s m args below meth c T locs cells slots) {cd : ClassFile.Cond} {o : Int} {x : Int32} (hd : decode code pc = .ok (.ifCond cd o, 3)) (q : Nat) (ho : 0 ≤ (pc : Int) + o) (hq : ((pc : Int) + o).toNat = q) (hc : ifCond.holds cd x = true) (k : Ends p e below s Q K N (T.setTop (mkF m q Ls rest))) : Ends p e below s Q K N (T.setTop (mkF m pc Ls (.int x :: rest))) := by
  exact .step (fun _ t => XS.ifYes X.here C.1 rfl (pc0 := pc) rfl (hb C.2 hd) rfl hc ho hq t) k
theorem o_ifN (C : Cx p c code) (X : Stand p l e R s m args below meth c T locs cells slots) {cd : ClassFile.Cond} {o : Int} {x : Int32} (hd : decode code pc = .ok (.ifCond cd o, 3)) (q : Nat) (hq : pc + 3 = q) (hc : ifCond.holds cd x = false) (k : Ends p e below s Q K N (T.setTop (mkF m q Ls rest))) : Ends p e below s Q K N (T.setTop (mkF m pc Ls (.int x :: rest))) := by
  subst hq
  exact .step (fun _ t => XS.ifNo X.here C.1 rfl (hb C.2 hd) rfl hc t) k
theorem o_icmpY (C : Cx p c code) (X : Stand p l e R s m args below meth c T locs cells slots) {cd : ClassFile.Cond} {o : Int} {x y : Int32} (hd : decode code pc = .ok (.if_icmp cd o, 3)) (q : Nat) (ho : 0 ≤ (pc : Int) + o) (hq : ((pc : Int) + o).toNat = q) (hc : if_icmp.holds cd x y = true) (k : Ends p e below s Q K N (T.setTop (mkF m q Ls rest))) : Ends p e below s Q K N (T.setTop (mkF m pc Ls (.int y :: .int x :: rest))) := by
  exact .step (fun _ t => XS.icmpYes X.here C.1 rfl (pc0 := pc) rfl (hb C.2 hd) rfl hc ho hq t) k
theorem o_icmpN (C : Cx p c code) (X : Stand p l e R s m args below meth c T locs cells slots) {cd : ClassFile.Cond} {o : Int} {x y : Int32} (hd : decode code pc = .ok (.if_icmp cd o, 3)) (q : Nat) (hq : pc + 3 = q) (hc : if_icmp.holds cd x y = false) (k : Ends p e below s Q K N (T.setTop (mkF m q Ls rest))) : Ends p e below s Q K N (T.setTop (mkF m pc Ls (.int y :: .int x :: rest))) := by
  subst hq
  exact .step (fun _ t => XS.icmpNo X.here C.1 rfl (hb C.2 hd) rfl hc t) k
theorem o_tlt {x y : Int64} (h : x < y) : ifCond.holds .lt (cmpL x y) = true ∧ ifCond.holds .ge (cmpL x y) = false := by
  have := (lw_lt x y).mpr h
  simp only [if0]; exact ⟨(tlt this).1, (tlt this).2.1⟩
theorem o_flt {x y : Int64} (h : ¬ x < y) : ifCond.holds .lt (cmpL x y) = false ∧ ifCond.holds .ge (cmpL x y) = true := by
  have := fun q => h ((lw_lt x y).mp q)
  simp only [if0]; exact ⟨(flt this).1, (flt this).2.1⟩
theorem o_tgt {x y : Int64} (h : y < x) : ifCond.holds .gt (cmpL x y) = true ∧ ifCond.holds .le (cmpL x y) = false := by
  have := (lw_gt x y).mpr h
  simp only [if0]; exact ⟨(tlt this).2.2.1, (tlt this).2.2.2⟩
theorem o_fgt {x y : Int64} (h : ¬ y < x) : ifCond.holds .gt (cmpL x y) = false ∧ ifCond.holds .le (cmpL x y) = true := by
  have := fun q => h ((lw_gt x y).mp q)
  simp only [if0]; exact ⟨(flt this).2.2.1, (flt this).2.2.2⟩
theorem o_teq {x y : Int64} (h : x = y) : ifCond.holds .eq (cmpL x y) = true ∧ ifCond.holds .ne (cmpL x y) = false := by
  have := (lw_eq x y).mpr h
  simp only [if0]; exact ⟨(teq this).1, (teq this).2⟩
theorem o_feq {x y : Int64} (h : ¬ x = y) : ifCond.holds .eq (cmpL x y) = false ∧ ifCond.holds .ne (cmpL x y) = true := by
  have := fun q => h ((lw_eq x y).mp q)
  simp only [if0]; exact ⟨(feq this).1, (feq this).2⟩
theorem o_ldcI (C : Cx p c code) (X : Stand p l e R s m args below meth c T locs cells slots) (hZ : Z.Warmed39 s.vm) {own : String} {index : Nat} {v : Int32} (hown : s.vm.findClass own = some m.cls) (w : (Jvm.Cond.constant own index v).before a0 Z = true) (hd : decode code pc = .ok (.ldc index, 2)) (q : Nat) (hq : pc + 2 = q) (k : Ends p e below s Q K N (T.setTop (mkF m q Ls (.int v :: rest)))) : Ends p e below s Q K N (T.setTop (mkF m pc Ls rest)) := by
  subst hq
  exact .step (fun _ t => X.ldcI C.1 hown (mvT hZ w) (g := mkF m pc Ls rest) rfl (hb C.2 hd) t) k
theorem o_ldc2J (C : Cx p c code) (X : Stand p l e R s m args below meth c T locs cells slots) (hZ : Z.Warmed39 s.vm) {own : String} {index : Nat} {v : Int64} (hown : s.vm.findClass own = some m.cls) (w : (Jvm.Cond.constantLong own index v).before a0 Z = true) (hd : decode code pc = .ok (.ldc2_w index, 3)) (q : Nat) (hq : pc + 3 = q) (k : Ends p e below s Q K N (T.setTop (mkF m q Ls (.long v :: rest)))) : Ends p e below s Q K N (T.setTop (mkF m pc Ls rest)) := by
  subst hq
  exact .step (fun _ t => X.ldc2J C.1 hown (mvT hZ w) (g := mkF m pc Ls rest) rfl (hb C.2 hd) t) k
theorem o_retI (C : Cx p c code) (X : Stand p l e R s m args below meth c T locs cells slots) {z : Int32} (hret : meth.sig.returnType = some .int) (hlk : meth.locks = false) (hd : decode code pc = .ok (.ireturn, 1)) (hQ : Q (some (.int z)) T.heap locs) (hK : cells ≤ K) (hN : slots ≤ N) : Ends p e below s Q K N (T.setTop (mkF m pc Ls (.int z :: rest))) := by
  obtain ⟨fs, hr, hrun, hended, hW, hsame⟩ := X.leave (v := (some (.int z))) (fun h => by rw [hret] at h; cases h) hlk
  exact ⟨_, _, retOut X C.1 hret rfl (Or.inl ⟨rfl, Or.inl rfl, z, rfl⟩) (hb C.2 hd) hr, hrun, hended, _, _, rfl, hQ, ⟨_, rfl⟩, hW, hsame.mono hK hN⟩
theorem o_retN (C : Cx p c code) (X : Stand p l e R s m args below meth c T locs cells slots) {z : Int32} {t : FieldType} (hret : meth.sig.returnType = some t) (ht : t = .boolean ∨ t = .byte ∨ t = .char ∨ t = .short) (hlk : meth.locks = false) (hd : decode code pc = .ok (.ireturn, 1)) (hQ : Q (some (.int (nar t z))) T.heap locs) (hK : cells ≤ K) (hN : slots ≤ N) : Ends p e below s Q K N (T.setTop (mkF m pc Ls (.int z :: rest))) := by
  obtain ⟨fs, hr, hrun, hended, hW, hsame⟩ := X.leave (v := (some (.int (nar t z)))) (fun h => by rw [hret] at h; cases h) hlk
  exact ⟨_, _, retN X C.1 hret ht (hb C.2 hd) hr, hrun, hended, _, _, rfl, hQ, ⟨_, rfl⟩, hW, hsame.mono hK hN⟩
theorem o_retJ (C : Cx p c code) (X : Stand p l e R s m args below meth c T locs cells slots) {z : Int64} (hret : meth.sig.returnType = some .long) (hlk : meth.locks = false) (hd : decode code pc = .ok (.lreturn, 1)) (hQ : Q (some (.long z)) T.heap locs) (hK : cells ≤ K) (hN : slots ≤ N) : Ends p e below s Q K N (T.setTop (mkF m pc Ls (.long z :: rest))) := by
  obtain ⟨fs, hr, hrun, hended, hW, hsame⟩ := X.leave (v := (some (.long z))) (fun h => by rw [hret] at h; cases h) hlk
  exact ⟨_, _, retOut X C.1 hret rfl (Or.inr (Or.inl ⟨rfl, rfl, z, rfl⟩)) (hb C.2 hd) hr, hrun, hended, _, _, rfl, hQ, ⟨_, rfl⟩, hW, hsame.mono hK hN⟩
theorem o_retA (C : Cx p c code) (X : Stand p l e R s m args below meth c T locs cells slots) {z : Addr} {t : FieldType} (hret : meth.sig.returnType = some t) (ht : t.isReference = true) (hlk : meth.locks = false) (hd : decode code pc = .ok (.areturn, 1)) (hQ : Q (some (.ref z)) T.heap locs) (hK : cells ≤ K) (hN : slots ≤ N) : Ends p e below s Q K N (T.setTop (mkF m pc Ls (.ref z :: []))) := by
  obtain ⟨fs, hr, hrun, hended, hW, hsame⟩ := X.leave (v := (some (.ref z))) (fun h => by rw [hret] at h; cases h) hlk
  exact ⟨_, _, X.areturnOut C.1 rfl hret ht (hb C.2 hd) hr, hrun, hended, _, _, rfl, hQ, ⟨_, rfl⟩, hW, hsame.mono hK hN⟩
theorem o_ret (C : Cx p c code) (X : Stand p l e R s m args below meth c T locs cells slots) (hret : meth.sig.returnType = none) (hlk : meth.locks = false) (hd : decode code pc = .ok (.return_, 1)) (hQ : Q none T.heap locs) (hK : cells ≤ K) (hN : slots ≤ N) : Ends p e below s Q K N (T.setTop (mkF m pc Ls [])) := by
  obtain ⟨fs, hr, hrun, hended, hW, hsame⟩ := X.leave (v := none) (fun _ => rfl) hlk
  exact ⟨_, _, X.returnOut C.1 hret (hb C.2 hd) hr, hrun, hended, _, _, rfl, hQ, ⟨_, rfl⟩, hW, hsame.mono hK hN⟩
theorem o_callS (C : Cx p c code) (X : Stand p l e R s m args below meth c T locs cells slots) (hZ : Z.Warmed39 s.vm) (hml : c.maxLocals = Ls.size) {own : String} {index : Nat} {y : MethodName} {bytes : ByteArray} {maxL : Nat} {ret : Option FieldType} {rm : Room} {Qc : Option Value → Heap → List Loc → Prop} (hown : s.vm.findClass own = some m.cls)
    (w1 : (Jvm.Cond.methodLink own index y).before a0 Z = true) (w2 : (Jvm.Cond.static y).before a0 Z = true) (w3 : (Jvm.Cond.initialized y.cls).before a0 Z = true) (w4 : (Jvm.Cond.code y bytes maxL ret).before a0 Z = true) (hy : y.cls ≠ "java/lang/invoke/MethodHandle" ∧ y.cls ≠ "java/lang/invoke/VarHandle")
    {asL st : List Value} (hM : Con l Z y bytes maxL ret rm rm.cells rm.slots [] asL.toArray h Qc) (eT : T.heap = h) {ps : List FieldType} {rt : Option FieldType} (pd : parseMethodDescriptor y.desc = some ⟨ps, rt⟩) (hlen : asL.length = ps.length) (hst : st = asL.reverse ++ rest) (W : Nat) (hW : (rest.map fun v => v.category).sum ≤ W) (hf : rm.frames + 1 ≤ R.frames) (hl : W + (maxL + 11) + rm.locals ≤ R.locals) (hcl : cells + rm.cells ≤ R.cells) (hsl : slots + rm.slots ≤ R.slots)
    (hd : decode code pc = .ok (.invokestatic index, 3)) (q : Nat) (hq : pc + 3 = q) (k : ∀ (T' : State) (h' : Heap) (v : Option Value) (L : List Loc), Stand p l e R s m args below meth c T' (locs ++ L) (cells + rm.cells) (slots + rm.slots) → T'.heap = h' → Qc v h' L → Ends p e below s Q K N (T'.setTop (mkF m q Ls (v.toList ++ rest)))) : Ends p e below s Q K N (T.setTop (mkF m pc Ls st)) := by
  subst hq hst
  obtain ⟨v, _, ⟨T', L', k', n'⟩, -, X', ⟨Lc, hQ, rfl, rfl, rfl⟩, st⟩ := Jvm.LawKit.callS X C.1 (y := y) hown (mvT hZ w1) (mvT hZ w2) (mvT hZ w3) (mvT hZ w4) hy (backOf (W := W) hM hZ w4 w3 hf hl) (g := mkF m pc Ls (asL.reverse ++ rest)) rfl hml.symm (argsL := asL) (rest := rest) (lenOf pd hlen) rfl (by show 2 * 0 + _ ≤ _; omega) (hb C.2 hd) (fun _ _ => ⟨rfl, eT, hcl, hsl⟩)
  exact .step st (k T' _ v Lc X' rfl hQ)
theorem o_callI (C : Cx p c code) (X : Stand p l e R s m args below meth c T locs cells slots) (hZ : Z.Warmed39 s.vm) (hml : c.maxLocals = Ls.size) {own : String} {index : Nat} {y : MethodName} {bytes : ByteArray} {maxL : Nat} {rm : Room} {Qc : Option Value → Heap → List Loc → Prop} (hown : s.vm.findClass own = some m.cls) (hy1 : y.name = "<init>")
    (w1 : (Jvm.Cond.methodLink own index y).before a0 Z = true) (w2 : (Jvm.Cond.instanceMethod y).before a0 Z = true) (w3 : (Jvm.Cond.initialized y.cls).before a0 Z = true) (w4 : (Jvm.Cond.code y bytes maxL none).before a0 Z = true) (hy : y.cls ≠ "java/lang/invoke/MethodHandle" ∧ y.cls ≠ "java/lang/invoke/VarHandle")
    {asL st : List Value} {a : Addr} (hM : Con l Z y bytes maxL none rm rm.cells rm.slots [] (.ref a :: asL).toArray h Qc) (eT : T.heap = h) {ps : List FieldType} {rt : Option FieldType} (pd : parseMethodDescriptor y.desc = some ⟨ps, rt⟩) (hlen : asL.length = ps.length) (hst : st = asL.reverse ++ .ref a :: rest) (W : Nat) (hW : (rest.map fun v => v.category).sum ≤ W) (hf : rm.frames + 1 ≤ R.frames) (hl : W + (maxL + 11) + rm.locals ≤ R.locals) (hcl : cells + rm.cells ≤ R.cells) (hsl : slots + rm.slots ≤ R.slots)
    (hd : decode code pc = .ok (.invokespecial index, 3)) (q : Nat) (hq : pc + 3 = q) (k : ∀ (T' : State) (h' : Heap) (v : Option Value) (L : List Loc), Stand p l e R s m args below meth c T' (locs ++ L) (cells + rm.cells) (slots + rm.slots) → T'.heap = h' → Qc v h' L → Ends p e below s Q K N (T'.setTop (mkF m q Ls (v.toList ++ rest)))) : Ends p e below s Q K N (T.setTop (mkF m pc Ls st)) := by
  subst hq hst
  obtain ⟨v, _, ⟨T', L', k', n'⟩, -, X', ⟨Lc, hQ, rfl, rfl, rfl⟩, st⟩ := X.specialBack C.1 (y := y) hy1 hown (mvT hZ w1) (mvT hZ w2) (mvT hZ w4) hy (backOf (W := W) hM hZ w4 w3 hf hl) (g := mkF m pc Ls (asL.reverse ++ .ref a :: rest)) rfl hml.symm (Steps.refl _) (a := a) (argsL := asL) (rest := rest) (lenOf pd hlen) rfl (by show 2 * 0 + _ ≤ _; omega) (hb C.2 hd) (fun _ _ => ⟨rfl, eT, hcl, hsl⟩)
  exact .step (fun _ t => st.trans t) (k T' _ v Lc X' rfl hQ)
theorem o_callV (C : Cx p c code) (X : Stand p l e R s m args below meth c T locs cells slots) (hZ : Z.Warmed39 s.vm) (hml : c.maxLocals = Ls.size) {own : String} {index : Nat} {y : MethodName} {bytes : ByteArray} {maxL : Nat} {ret : Option FieldType} {rm : Room} {Qc : Option Value → Heap → List Loc → Prop} (hown : s.vm.findClass own = some m.cls)
    (w1 : (Jvm.Cond.methodLink own index y).before a0 Z = true) (w2 : (Jvm.Cond.declares y).before a0 Z = true) (w5 : (Jvm.Cond.selects y.cls y y).before a0 Z = true) (w6 : (Jvm.Cond.instanceMethod y).before a0 Z = true) (w3 : (Jvm.Cond.initialized y.cls).before a0 Z = true) (w4 : (Jvm.Cond.code y bytes maxL ret).before a0 Z = true) (hy : y.cls ≠ "java/lang/invoke/MethodHandle" ∧ y.cls ≠ "java/lang/invoke/VarHandle")
    {asL st : List Value} {a : Addr} (hM : Con l Z y bytes maxL ret rm rm.cells rm.slots [] (.ref a :: asL).toArray h Qc) (eT : T.heap = h) (E : Exa Z h a y.cls) {ps : List FieldType} {rt : Option FieldType} (pd : parseMethodDescriptor y.desc = some ⟨ps, rt⟩) (hlen : asL.length = ps.length) (hst : st = asL.reverse ++ .ref a :: rest) (W : Nat) (hW : (rest.map fun v => v.category).sum ≤ W) (hf : rm.frames + 1 ≤ R.frames) (hl : W + (maxL + 11) + rm.locals ≤ R.locals) (hcl : cells + rm.cells ≤ R.cells) (hsl : slots + rm.slots ≤ R.slots)
    (hd : decode code pc = .ok (.invokevirtual index, 3)) (q : Nat) (hq : pc + 3 = q) (k : ∀ (T' : State) (h' : Heap) (v : Option Value) (L : List Loc), Stand p l e R s m args below meth c T' (locs ++ L) (cells + rm.cells) (slots + rm.slots) → T'.heap = h' → Qc v h' L → Ends p e below s Q K N (T'.setTop (mkF m q Ls (v.toList ++ rest)))) : Ends p e below s Q K N (T.setTop (mkF m pc Ls st)) := by
  subst hq hst
  obtain ⟨cq, kq, qa, qb, qc⟩ := isOf hZ eT E
  obtain ⟨v, _, ⟨T', L', k', n'⟩, -, X', ⟨Lc, hQ, rfl, rfl, rfl⟩, st⟩ := X.virtualBack C.1 (y := y) (z := y) hown (mvT hZ w1) (mvT hZ w2) (notFace_of_selects (args := #[]) (mvT hZ w5)) (mvT hZ w5) (mvT hZ w6) hy (backOf (W := W) hM hZ w4 w3 hf hl) qa qc (g := mkF m pc Ls (asL.reverse ++ .ref a :: rest)) rfl hml.symm (Steps.refl _) (argsL := asL) (rest := rest) (lenOf pd hlen) rfl (by show 2 * 0 + _ ≤ _; omega) (hb C.2 hd) (fun _ _ => ⟨rfl, eT, hcl, hsl⟩)
  exact .step (fun _ t => st.trans t) (k T' _ v Lc X' rfl hQ)
theorem Ends.via {T0 : State} (F : JFrame) (k1 : Ends p e below s Q K N (T.setTop F) → Ends p e below s Q K N T0) (k2 : Ends p e below s Q K N (T.setTop F)) : Ends p e below s Q K N T0 := k1 k2
/-- what a callee that writes and makes nothing says: its value, the heap as it was -/
def PQ (v0 : Value) (h : Heap) : Option Value → Heap → List Loc → Prop := fun v h' L => v = some v0 ∧ L = [] ∧ h' = h
theorem o_callP (C : Cx p c code) (X : Stand p l e R s m args below meth c T locs cells slots) (hZ : Z.Warmed39 s.vm) (hml : c.maxLocals = Ls.size) {own : String} {index : Nat} {y : MethodName} {bytes : ByteArray} {maxL : Nat} {ret : Option FieldType} {rf rl : Nat} {v0 : Value} (hown : s.vm.findClass own = some m.cls)
    (w1 : (Jvm.Cond.methodLink own index y).before a0 Z = true) (w2 : (Jvm.Cond.static y).before a0 Z = true) (w3 : (Jvm.Cond.initialized y.cls).before a0 Z = true) (w4 : (Jvm.Cond.code y bytes maxL ret).before a0 Z = true) (hy : y.cls ≠ "java/lang/invoke/MethodHandle" ∧ y.cls ≠ "java/lang/invoke/VarHandle")
    {asL st : List Value} (hM : Con l Z y bytes maxL ret { frames := rf, cells := 0, slots := 0, locals := rl } 0 0 [] asL.toArray h (PQ v0 h)) (eT : T.heap = h) {ps : List FieldType} {rt : Option FieldType} (pd : parseMethodDescriptor y.desc = some ⟨ps, rt⟩) (hlen : asL.length = ps.length) (hst : st = asL.reverse ++ rest) (W : Nat) (hW : (rest.map fun v => v.category).sum ≤ W) (hf : rf + 1 ≤ R.frames) (hl : W + (maxL + 11) + rl ≤ R.locals) (hcl : cells ≤ R.cells) (hsl : slots ≤ R.slots)
    (hd : decode code pc = .ok (.invokestatic index, 3)) (q : Nat) (hq : pc + 3 = q) (k : ∀ (T' : State), Stand p l e R s m args below meth c T' locs cells slots → T'.heap = h → Ends p e below s Q K N (T'.setTop (mkF m q Ls (v0 :: rest)))) : Ends p e below s Q K N (T.setTop (mkF m pc Ls st)) := by
  refine o_callS C X hZ hml hown w1 w2 w3 w4 hy (rm := { frames := rf, cells := 0, slots := 0, locals := rl }) hM eT pd hlen hst W hW hf hl hcl hsl hd q hq ?_
  intro T' h' v L X' e' hq
  obtain ⟨rfl, rfl, hh⟩ := hq
  rw [List.append_nil] at X'
  exact k T' X' (e'.trans hh)
theorem o_callVP (C : Cx p c code) (X : Stand p l e R s m args below meth c T locs cells slots) (hZ : Z.Warmed39 s.vm) (hml : c.maxLocals = Ls.size) {own : String} {index : Nat} {y : MethodName} {bytes : ByteArray} {maxL : Nat} {ret : Option FieldType} {rf rl : Nat} {v0 : Value} (hown : s.vm.findClass own = some m.cls)
    (w1 : (Jvm.Cond.methodLink own index y).before a0 Z = true) (w2 : (Jvm.Cond.declares y).before a0 Z = true) (w5 : (Jvm.Cond.selects y.cls y y).before a0 Z = true) (w6 : (Jvm.Cond.instanceMethod y).before a0 Z = true) (w3 : (Jvm.Cond.initialized y.cls).before a0 Z = true) (w4 : (Jvm.Cond.code y bytes maxL ret).before a0 Z = true) (hy : y.cls ≠ "java/lang/invoke/MethodHandle" ∧ y.cls ≠ "java/lang/invoke/VarHandle")
    {asL st : List Value} {a : Addr} (hM : Con l Z y bytes maxL ret { frames := rf, cells := 0, slots := 0, locals := rl } 0 0 [] (.ref a :: asL).toArray h (PQ v0 h)) (eT : T.heap = h) (E : Exa Z h a y.cls) {ps : List FieldType} {rt : Option FieldType} (pd : parseMethodDescriptor y.desc = some ⟨ps, rt⟩) (hlen : asL.length = ps.length) (hst : st = asL.reverse ++ .ref a :: rest) (W : Nat) (hW : (rest.map fun v => v.category).sum ≤ W) (hf : rf + 1 ≤ R.frames) (hl : W + (maxL + 11) + rl ≤ R.locals) (hcl : cells ≤ R.cells) (hsl : slots ≤ R.slots)
    (hd : decode code pc = .ok (.invokevirtual index, 3)) (q : Nat) (hq : pc + 3 = q) (k : ∀ (T' : State), Stand p l e R s m args below meth c T' locs cells slots → T'.heap = h → Ends p e below s Q K N (T'.setTop (mkF m q Ls (v0 :: rest)))) : Ends p e below s Q K N (T.setTop (mkF m pc Ls st)) := by
  refine o_callV C X hZ hml hown w1 w2 w5 w6 w3 w4 hy (rm := { frames := rf, cells := 0, slots := 0, locals := rl }) hM eT E pd hlen hst W hW hf hl hcl hsl hd q hq ?_
  intro T' h' v L X' e' hq
  obtain ⟨rfl, rfl, hh⟩ := hq
  rw [List.append_nil] at X'
  exact k T' X' (e'.trans hh)
theorem o_new (C : Cx p c code) (X : Stand p l e R s m args below meth c T locs cells slots) (hZ : Z.Warmed39 s.vm) {own Cn : String} {index n : Nat} (hown : s.vm.findClass own = some m.cls) (w : (Jvm.Cond.classLink own index Cn).before a0 Z = true) (wi : (Jvm.Cond.instantiable Cn n).before a0 Z = true) (wz : (Jvm.Cond.initialized Cn).before a0 Z = true) (eT : T.heap = h) (hd : decode code pc = .ok (.new index, 3)) (hc : cells + 1 ≤ R.cells) (hl : slots + n ≤ R.slots) (q : Nat) (hq : pc + 3 = q)
    (k : ∀ (T' : State) (h' : Heap) (a : Addr), a = h.size → Stand p l e R s m args below meth c T' locs (cells + 1) (slots + n) → T'.heap = h' → Ext h h' → Exa Z h' a Cn → (∀ {O nm d : String} {ty : FieldType}, Laid Z a0 Cn O nm d → parseFieldDescriptor d = some ty → Fld Z h' a O nm d (defaultValue ty)) → Ends p e below s Q K N (T'.setTop (mkF m q Ls (.ref a :: rest)))) : Ends p e below s Q K N (T.setTop (mkF m pc Ls rest)) := by
  subst hq
  obtain ⟨T', h', X', e', E, A, D, -, st⟩ := newO X C.1 hZ hown w wi wz eT (g := mkF m pc Ls rest) rfl (hb C.2 hd) hc hl
  exact .step st (k T' h' _ rfl X' e' E A D)
theorem o_getF (C : Cx p c code) (X : Stand p l e R s m args below meth c T locs cells slots) (hZ : Z.Warmed39 s.vm) {own R0 O n d : String} {index : Nat} (hown : s.vm.findClass own = some m.cls) (w : (Jvm.Cond.fieldLink own index R0 n d).before a0 Z = true) (via : Via Z R0 O n d) (eT : T.heap = h) {a : Addr} {v : Value} (F : Fld Z h a O n d v) (hd : decode code pc = .ok (.getfield index, 3)) (q : Nat) (hq : pc + 3 = q)
    (k : ∀ (T' : State), Stand p l e R s m args below meth c T' locs cells slots → T'.heap = h → Ends p e below s Q K N (T'.setTop (mkF m q Ls (v :: rest)))) : Ends p e below s Q K N (T.setTop (mkF m pc Ls (.ref a :: rest))) := by
  subst hq
  obtain ⟨T', X', e', st⟩ := getF X C.1 hZ hown (host := "") (Or.inl w) via eT F (g := mkF m pc Ls (.ref a :: rest)) rfl rfl (hb C.2 hd)
  exact .step st (k T' X' e')
theorem o_putF (C : Cx p c code) (X : Stand p l e R s m args below meth c T locs cells slots) (hZ : Z.Warmed39 s.vm) {own R0 O n d Cn : String} {index kk : Nat} {ty : FieldType} (hown : s.vm.findClass own = some m.cls) (w : (Jvm.Cond.fieldLink own index R0 n d).before a0 Z = true) (via : Via Z R0 O n d) (eT : T.heap = h) {a : Addr} {v old : Value} (F : Fld Z h a O n d old) (E : Exa Z h a Cn) (L : (Jvm.Cond.lays Cn O n d).before a0 Z = true ∨ ((Jvm.Cond.laysFinal Cn O n d).before a0 Z = true ∧ own = O ∧ meth.name = "<init>")) (wi : (Jvm.Cond.instantiable Cn kk).before a0 Z = true) (hty : parseFieldDescriptor d = some ty) (hn : narrow ty v = v) (hf : fits ty v = true) (hd : decode code pc = .ok (.putfield index, 3)) (q : Nat) (hq : pc + 3 = q) {n0 : Nat} (N0 : Fr n0 locs) (ha : n0 ≤ a)
    (k : ∀ (T' : State) (h' : Heap) (locs' : List Loc), Stand p l e R s m args below meth c T' locs' cells slots → T'.heap = h' → Wr h h' a (Jvm.RoadKit.slotOf Z O n d) v → Fr n0 locs' → Ends p e below s Q K N (T'.setTop (mkF m q Ls rest))) : Ends p e below s Q K N (T.setTop (mkF m pc Ls (v :: .ref a :: rest))) := by
  subst hq
  obtain ⟨T', h', X', e', W, st⟩ := putF X C.1 hZ hown (host := "") (Or.inl w) via eT F E L wi hty hn hf (g := mkF m pc Ls (v :: .ref a :: rest)) rfl rfl (hb C.2 hd)
  exact .step st (k T' h' _ X' e' W (Fr.snoc X' N0 ha))
/-- the array at a has n places; the place j holds the int f j -/
def AI (Z : State) (h : Heap) (a : Addr) (ty : FieldType) (n : Nat) (f : Nat → Int32) : Prop := ∃ cl : Cell, Arr Z h a cl ty ∧ cl.slots.size = n ∧ n < 2 ^ 31 ∧ ∀ j, j < n → cl.slots[j]? = some (.int (f j))
theorem AI.lt {a : Addr} {ty : FieldType} {n : Nat} {f : Nat → Int32} (A : AI Z h a ty n f) : a < h.size := by
  obtain ⟨cl, A, -⟩ := A; exact A.lt
theorem AI.ext {h' : Heap} {a : Addr} {ty : FieldType} {n : Nat} {f : Nat → Int32} (A : AI Z h a ty n f) (E : Ext h h') : AI Z h' a ty n f := by
  obtain ⟨cl, A, B⟩ := A; exact ⟨cl, A.ext E, B⟩
theorem AI.other {h' : Heap} {a b : Addr} {ty : FieldType} {n sl : Nat} {v : Value} {f : Nat → Int32} (A : AI Z h b ty n f) (W : Wr h h' a sl v) (q : b ≠ a) : AI Z h' b ty n f := by
  obtain ⟨cl, A, B⟩ := A; exact ⟨cl, A.other W q, B⟩
theorem AI.keep {h' : Heap} {a : Addr} {ty : FieldType} {n : Nat} {f : Nat → Int32} {ws : List Addr} (A : AI Z h a ty n f) (k : Keep h h' ws) (q : a ∉ ws) : AI Z h' a ty n f := by
  obtain ⟨cl, ⟨A1, A2⟩, B⟩ := A; exact ⟨cl, ⟨k.2.1 _ _ A1 q, A2⟩, B⟩
theorem AI.wr {h' : Heap} {a : Addr} {ty : FieldType} {n i : Nat} {v : Int32} {f : Nat → Int32} (A : AI Z h a ty n f) (W : Wr h h' a i (.int v)) (hi : i < n) : AI Z h' a ty n (fun j => if j = i then v else f j) := by
  obtain ⟨cl, A, S, M, B⟩ := A
  refine ⟨_, A.same W, by rw [sz_set]; exact S, M, fun j hj => ?_⟩
  show (cl.slots.setIfInBounds i (.int v))[j]? = _
  rw [Array.getElem?_setIfInBounds]
  by_cases q : i = j
  · subst q; rw [if_pos rfl, if_pos (by rw [S]; exact hi)]; dsimp only; rw [if_pos rfl]
  · rw [if_neg q, B j hj]; dsimp only; rw [if_neg (fun r => q r.symm)]
theorem AI.congr {a : Addr} {ty : FieldType} {n : Nat} {f g : Nat → Int32} (A : AI Z h a ty n f) (q : ∀ j, j < n → f j = g j) : AI Z h a ty n g := by
  obtain ⟨cl, A, S, M, B⟩ := A
  exact ⟨cl, A, S, M, fun j hj => by rw [B j hj, q j hj]⟩
theorem AI.ne {a b : Addr} {ty : FieldType} {n : Nat} {f : Nat → Int32} (A : AI Z h a ty n f) (q : b = h.size) : a ≠ b := fun r => by
  have := A.lt; rw [r, q] at this; exact Nat.lt_irrefl _ this
theorem own_idx {m : Nat} {j : Int32} {i n : Nat} (hj : j.toInt = i) (hi : i < n) (S : m = n) : ¬ (j < 0 ∨ m ≤ j.toNatClampNeg) ∧ j.toNatClampNeg = i := by
  have e1 : j.toNatClampNeg = i := by rw [Int32.toNatClampNeg, hj]; rfl
  refine ⟨?_, e1⟩
  rw [e1, S, Int32.lt_iff_toInt_lt, hj, show (0 : Int32).toInt = 0 from rfl]
  omega
theorem o_iaload (C : Cx p c code) (X : Stand p l e R s m args below meth c T locs cells slots) (hZ : Z.Warmed39 s.vm) (eT : T.heap = h) {a : Addr} {n : Nat} {f : Nat → Int32} (A : AI Z h a .int n f) {j : Int32} (i : Nat) (hj : j.toInt = i) (hi : i < n) (hd : decode code pc = .ok (.iaload, 1)) (q : Nat) (hq : pc + 1 = q) (k : Ends p e below s Q K N (T.setTop (mkF m q Ls (.int (f i) :: rest)))) : Ends p e below s Q K N (T.setTop (mkF m pc Ls (.int j :: .ref a :: rest))) := by
  subst hq
  obtain ⟨cl, A, S, M, B⟩ := A
  obtain ⟨q1, q2⟩ := own_idx hj hi S
  exact .step (fun t kt => X.iaload C.1 (j := j) (v := .int (f i)) (by rw [eT]; exact A.1) (State.isArrayOf_alike hZ.alike A.2.1) A.2.2 q1 (by rw [q2]; exact B i hi) (g := mkF m pc Ls (.int j :: .ref a :: rest)) rfl rfl (hb C.2 hd) t kt) k
theorem o_baload (C : Cx p c code) (X : Stand p l e R s m args below meth c T locs cells slots) (hZ : Z.Warmed39 s.vm) (eT : T.heap = h) {a : Addr} {n : Nat} {f : Nat → Int32} (A : AI Z h a .byte n f) {j : Int32} (i : Nat) (hj : j.toInt = i) (hi : i < n) (hd : decode code pc = .ok (.baload, 1)) (q : Nat) (hq : pc + 1 = q) (k : Ends p e below s Q K N (T.setTop (mkF m q Ls (.int (f i) :: rest)))) : Ends p e below s Q K N (T.setTop (mkF m pc Ls (.int j :: .ref a :: rest))) := by
  subst hq
  obtain ⟨cl, A, S, M, B⟩ := A
  obtain ⟨q1, q2⟩ := own_idx hj hi S
  exact .step (fun t kt => X.baloadBytes C.1 (j := j) (v := .int (f i)) (by rw [eT]; exact A.1) (State.isArrayOf_alike hZ.alike A.2.1) A.2.2 q1 (by rw [q2]; exact B i hi) (g := mkF m pc Ls (.int j :: .ref a :: rest)) rfl rfl (hb C.2 hd) t kt) k
theorem o_arraylength (C : Cx p c code) (X : Stand p l e R s m args below meth c T locs cells slots) (hZ : Z.Warmed39 s.vm) (eT : T.heap = h) {a : Addr} {ty : FieldType} {n : Nat} {f : Nat → Int32} (A : AI Z h a ty n f) (v : Int32) (hv : n.toInt32 = v) (hd : decode code pc = .ok (.arraylength, 1)) (q : Nat) (hq : pc + 1 = q) (k : Ends p e below s Q K N (T.setTop (mkF m q Ls (.int v :: rest)))) : Ends p e below s Q K N (T.setTop (mkF m pc Ls (.ref a :: rest))) := by
  subst hq hv
  obtain ⟨cl, A, rfl, M, B⟩ := A
  exact .step (fun t kt => X.arraylength C.1 (by rw [eT]; exact A.1) (State.isArrayOf_alike hZ.alike A.2.1) (g := mkF m pc Ls (.ref a :: rest)) rfl (rest := rest) rfl (hb C.2 hd) t kt) k
theorem o_iastore (C : Cx p c code) (X : Stand p l e R s m args below meth c T locs cells slots) (hZ : Z.Warmed39 s.vm) (eT : T.heap = h) {a : Addr} {n : Nat} {f : Nat → Int32} (A : AI Z h a .int n f) {j x : Int32} (i : Nat) (hj : j.toInt = i) (hi : i < n) (hd : decode code pc = .ok (.iastore, 1)) (q : Nat) (hq : pc + 1 = q) {n0 : Nat} (N0 : Fr n0 locs) (ha : n0 ≤ a)
    (k : ∀ (T' : State) (h' : Heap) (locs' : List Loc), Stand p l e R s m args below meth c T' locs' cells slots → T'.heap = h' → Wr h h' a i (.int x) → Fr n0 locs' → AI Z h' a .int n (fun j => if j = i then x else f j) → Ends p e below s Q K N (T'.setTop (mkF m q Ls rest))) : Ends p e below s Q K N (T.setTop (mkF m pc Ls (.int x :: .int j :: .ref a :: rest))) := by
  subst hq
  obtain ⟨cl, A', S, M, B⟩ := A
  obtain ⟨q1, q2⟩ := own_idx hj hi S
  obtain ⟨T', h', X', e', W, st⟩ := stI X C.1 hZ eT A' (j := j) (x := x) q1 (g := mkF m pc Ls (.int x :: .int j :: .ref a :: rest)) rfl rfl (hb C.2 hd)
  rw [q2] at W
  exact .step st (k T' h' _ X' e' W (Fr.snoc X' N0 ha) (AI.wr ⟨cl, A', S, M, B⟩ W hi))
theorem o_bastore (C : Cx p c code) (X : Stand p l e R s m args below meth c T locs cells slots) (hZ : Z.Warmed39 s.vm) (eT : T.heap = h) {a : Addr} {n : Nat} {f : Nat → Int32} (A : AI Z h a .byte n f) {j x : Int32} (i : Nat) (hj : j.toInt = i) (hi : i < n) (hd : decode code pc = .ok (.bastore, 1)) (q : Nat) (hq : pc + 1 = q) {n0 : Nat} (N0 : Fr n0 locs) (ha : n0 ≤ a)
    (k : ∀ (T' : State) (h' : Heap) (locs' : List Loc), Stand p l e R s m args below meth c T' locs' cells slots → T'.heap = h' → Wr h h' a i (.int (nar .byte x)) → Fr n0 locs' → AI Z h' a .byte n (fun j => if j = i then (nar .byte x) else f j) → Ends p e below s Q K N (T'.setTop (mkF m q Ls rest))) : Ends p e below s Q K N (T.setTop (mkF m pc Ls (.int x :: .int j :: .ref a :: rest))) := by
  subst hq
  obtain ⟨cl, A', S, M, B⟩ := A
  obtain ⟨q1, q2⟩ := own_idx hj hi S
  obtain ⟨T', h', X', e', W, st⟩ := stB X C.1 hZ eT A' (j := j) (x := x) q1 (g := mkF m pc Ls (.int x :: .int j :: .ref a :: rest)) rfl rfl (hb C.2 hd)
  rw [q2] at W
  exact .step st (k T' h' _ X' e' W (Fr.snoc X' N0 ha) (AI.wr ⟨cl, A', S, M, B⟩ W hi))
theorem o_newarrayI (C : Cx p c code) (X : Stand p l e R s m args below meth c T locs cells slots) (hZ : Z.Warmed39 s.vm) (w : (Jvm.Cond.arrayClass .int).before a0 Z = true) (eT : T.heap = h) {z : Int32} (n : Nat) (hz : z.toInt = n) (cap : Nat) (hcap : n ≤ cap) (hb8 : cap * 8 ≤ 536870912) (hc : cells + 1 ≤ R.cells) (hl : slots + cap ≤ R.slots) (hd : decode code pc = .ok (.newarray .int, 2)) (q : Nat) (hq : pc + 2 = q)
    (k : ∀ (T' : State) (h' : Heap) (a : Addr), a = h.size → Stand p l e R s m args below meth c T' locs (cells + 1) (slots + cap) → T'.heap = h' → Ext h h' → AI Z h' a .int n (fun _ => 0) → Ends p e below s Q K N (T'.setTop (mkF m q Ls (.ref a :: rest)))) : Ends p e below s Q K N (T.setTop (mkF m pc Ls (.int z :: rest))) := by
  subst hq
  have hn : ¬ z < 0 := by rw [Int32.lt_iff_toInt_lt, hz, show (0 : Int32).toInt = 0 from rfl]; omega
  have e1 : z.toNatClampNeg = n := by rw [Int32.toNatClampNeg, hz]; rfl
  have hr := Int32.toInt_lt z
  obtain ⟨T', h', cA, X', e', E, A, st⟩ := newP X C.1 hZ (aty := .int) w eT (g := mkF m pc Ls (.int z :: rest)) rfl (hb C.2 hd) (n := z) (rest := rest) rfl hn (cap := cap) (by rw [e1]; exact hcap) hb8 hc hl
  refine .step st (k T' h' _ rfl X' e' E ⟨_, A, by rw [sz_new, e1], by omega, fun j hj => ?_⟩)
  simp only [newA, e1]
  rw [Array.getElem?_replicate, if_pos hj]; rfl
theorem o_newarrayB (C : Cx p c code) (X : Stand p l e R s m args below meth c T locs cells slots) (hZ : Z.Warmed39 s.vm) (w : (Jvm.Cond.arrayClass .byte).before a0 Z = true) (eT : T.heap = h) {z : Int32} (n : Nat) (hz : z.toInt = n) (cap : Nat) (hcap : n ≤ cap) (hb8 : cap * 8 ≤ 536870912) (hc : cells + 1 ≤ R.cells) (hl : slots + cap ≤ R.slots) (hd : decode code pc = .ok (.newarray .byte, 2)) (q : Nat) (hq : pc + 2 = q)
    (k : ∀ (T' : State) (h' : Heap) (a : Addr), a = h.size → Stand p l e R s m args below meth c T' locs (cells + 1) (slots + cap) → T'.heap = h' → Ext h h' → AI Z h' a .byte n (fun _ => 0) → Ends p e below s Q K N (T'.setTop (mkF m q Ls (.ref a :: rest)))) : Ends p e below s Q K N (T.setTop (mkF m pc Ls (.int z :: rest))) := by
  subst hq
  have hn : ¬ z < 0 := by rw [Int32.lt_iff_toInt_lt, hz, show (0 : Int32).toInt = 0 from rfl]; omega
  have e1 : z.toNatClampNeg = n := by rw [Int32.toNatClampNeg, hz]; rfl
  have hr := Int32.toInt_lt z
  obtain ⟨T', h', cA, X', e', E, A, st⟩ := newP X C.1 hZ (aty := .byte) w eT (g := mkF m pc Ls (.int z :: rest)) rfl (hb C.2 hd) (n := z) (rest := rest) rfl hn (cap := cap) (by rw [e1]; exact hcap) hb8 hc hl
  refine .step st (k T' h' _ rfl X' e' E ⟨_, A, by rw [sz_new, e1], by omega, fun j hj => ?_⟩)
  simp only [newA, e1]
  rw [Array.getElem?_replicate, if_pos hj]; rfl
end Own
theorem own_add {p0 : Int32} {i : Nat} (hp : p0.toInt = i) (hi : i ≤ 4) {n : Int32} {k : Nat} (hn : n.toInt = k) (hk : k ≤ 4) : (p0 + n).toInt = ((i + k : Nat) : Int) := by
  have := c_iadd p0 n
  have r := rng32 (p0 + n)
  omega
theorem own_in {p0 : Int32} {i : Nat} (hp : p0.toInt = i) (hi : i ≤ 4) {n : Int32} {k : Nat} (hn : n.toInt = k) (hk : k ≤ 4) (q : ¬ (5 : Int32) < p0 + n) : i + k ≤ 5 := by
  rw [Int32.lt_iff_toInt_lt, own_add hp hi hn hk, show (5 : Int32).toInt = 5 from rfl] at q
  omega
def FE (f : Nat → Int32) (i : Nat) (p0 : Int32) : Int32 := (if ((f i) &&& (255 : Int32)) < (128 : Int32) then ((f i) &&& (255 : Int32)) else (if (((f i) &&& (255 : Int32)) &&& (224 : Int32)) = (192 : Int32) then (if (5 : Int32) < (p0 + (2 : Int32)) then (-1 : Int32) else (if (((f (i + 1)) &&& (255 : Int32)) &&& (192 : Int32)) = (128 : Int32) then (if (((((f i) &&& (255 : Int32)) &&& (31 : Int32)) <<< ((6 : Int32) &&& 31)) ||| (((f (i + 1)) &&& (255 : Int32)) &&& (63 : Int32))) < (128 : Int32) then (-1 : Int32) else (if (1114111 : Int32) < (((((f i) &&& (255 : Int32)) &&& (31 : Int32)) <<< ((6 : Int32) &&& 31)) ||| (((f (i + 1)) &&& (255 : Int32)) &&& (63 : Int32))) then (-1 : Int32) else (if (((((f i) &&& (255 : Int32)) &&& (31 : Int32)) <<< ((6 : Int32) &&& 31)) ||| (((f (i + 1)) &&& (255 : Int32)) &&& (63 : Int32))) < (55296 : Int32) then (((((f i) &&& (255 : Int32)) &&& (31 : Int32)) <<< ((6 : Int32) &&& 31)) ||| (((f (i + 1)) &&& (255 : Int32)) &&& (63 : Int32))) else (if (57343 : Int32) < (((((f i) &&& (255 : Int32)) &&& (31 : Int32)) <<< ((6 : Int32) &&& 31)) ||| (((f (i + 1)) &&& (255 : Int32)) &&& (63 : Int32))) then (((((f i) &&& (255 : Int32)) &&& (31 : Int32)) <<< ((6 : Int32) &&& 31)) ||| (((f (i + 1)) &&& (255 : Int32)) &&& (63 : Int32))) else (-1 : Int32))))) else (-1 : Int32))) else (if (((f i) &&& (255 : Int32)) &&& (240 : Int32)) = (224 : Int32) then (if (5 : Int32) < (p0 + (3 : Int32)) then (-1 : Int32) else (if (((f (i + 1)) &&& (255 : Int32)) &&& (192 : Int32)) = (128 : Int32) then (if (((f (i + 2)) &&& (255 : Int32)) &&& (192 : Int32)) = (128 : Int32) then (if (((((((f i) &&& (255 : Int32)) &&& (15 : Int32)) <<< ((6 : Int32) &&& 31)) ||| (((f (i + 1)) &&& (255 : Int32)) &&& (63 : Int32))) <<< ((6 : Int32) &&& 31)) ||| (((f (i + 2)) &&& (255 : Int32)) &&& (63 : Int32))) < (2048 : Int32) then (-1 : Int32) else (if (1114111 : Int32) < (((((((f i) &&& (255 : Int32)) &&& (15 : Int32)) <<< ((6 : Int32) &&& 31)) ||| (((f (i + 1)) &&& (255 : Int32)) &&& (63 : Int32))) <<< ((6 : Int32) &&& 31)) ||| (((f (i + 2)) &&& (255 : Int32)) &&& (63 : Int32))) then (-1 : Int32) else (if (((((((f i) &&& (255 : Int32)) &&& (15 : Int32)) <<< ((6 : Int32) &&& 31)) ||| (((f (i + 1)) &&& (255 : Int32)) &&& (63 : Int32))) <<< ((6 : Int32) &&& 31)) ||| (((f (i + 2)) &&& (255 : Int32)) &&& (63 : Int32))) < (55296 : Int32) then (((((((f i) &&& (255 : Int32)) &&& (15 : Int32)) <<< ((6 : Int32) &&& 31)) ||| (((f (i + 1)) &&& (255 : Int32)) &&& (63 : Int32))) <<< ((6 : Int32) &&& 31)) ||| (((f (i + 2)) &&& (255 : Int32)) &&& (63 : Int32))) else (if (57343 : Int32) < (((((((f i) &&& (255 : Int32)) &&& (15 : Int32)) <<< ((6 : Int32) &&& 31)) ||| (((f (i + 1)) &&& (255 : Int32)) &&& (63 : Int32))) <<< ((6 : Int32) &&& 31)) ||| (((f (i + 2)) &&& (255 : Int32)) &&& (63 : Int32))) then (((((((f i) &&& (255 : Int32)) &&& (15 : Int32)) <<< ((6 : Int32) &&& 31)) ||| (((f (i + 1)) &&& (255 : Int32)) &&& (63 : Int32))) <<< ((6 : Int32) &&& 31)) ||| (((f (i + 2)) &&& (255 : Int32)) &&& (63 : Int32))) else (-1 : Int32))))) else (-1 : Int32)) else (-1 : Int32))) else (if (((f i) &&& (255 : Int32)) &&& (248 : Int32)) = (240 : Int32) then (if (5 : Int32) < (p0 + (4 : Int32)) then (-1 : Int32) else (if (((f (i + 1)) &&& (255 : Int32)) &&& (192 : Int32)) = (128 : Int32) then (if (((f (i + 2)) &&& (255 : Int32)) &&& (192 : Int32)) = (128 : Int32) then (if (((f (i + 3)) &&& (255 : Int32)) &&& (192 : Int32)) = (128 : Int32) then (if (((((((((f i) &&& (255 : Int32)) &&& (7 : Int32)) <<< ((6 : Int32) &&& 31)) ||| (((f (i + 1)) &&& (255 : Int32)) &&& (63 : Int32))) <<< ((6 : Int32) &&& 31)) ||| (((f (i + 2)) &&& (255 : Int32)) &&& (63 : Int32))) <<< ((6 : Int32) &&& 31)) ||| (((f (i + 3)) &&& (255 : Int32)) &&& (63 : Int32))) < (65536 : Int32) then (-1 : Int32) else (if (1114111 : Int32) < (((((((((f i) &&& (255 : Int32)) &&& (7 : Int32)) <<< ((6 : Int32) &&& 31)) ||| (((f (i + 1)) &&& (255 : Int32)) &&& (63 : Int32))) <<< ((6 : Int32) &&& 31)) ||| (((f (i + 2)) &&& (255 : Int32)) &&& (63 : Int32))) <<< ((6 : Int32) &&& 31)) ||| (((f (i + 3)) &&& (255 : Int32)) &&& (63 : Int32))) then (-1 : Int32) else (((((((((f i) &&& (255 : Int32)) &&& (7 : Int32)) <<< ((6 : Int32) &&& 31)) ||| (((f (i + 1)) &&& (255 : Int32)) &&& (63 : Int32))) <<< ((6 : Int32) &&& 31)) ||| (((f (i + 2)) &&& (255 : Int32)) &&& (63 : Int32))) <<< ((6 : Int32) &&& 31)) ||| (((f (i + 3)) &&& (255 : Int32)) &&& (63 : Int32))))) else (-1 : Int32)) else (-1 : Int32)) else (-1 : Int32))) else (-1 : Int32)))))
theorem d1_0 : decode method_3_code 0 = .ok (.aload_n 0, 1) := by decide +kernel
theorem d1_1 : decode method_3_code 1 = .ok (.iload_n 1, 1) := by decide +kernel
theorem d1_2 : decode method_3_code 2 = .ok (.baload, 1) := by decide +kernel
theorem d1_3 : decode method_3_code 3 = .ok (.sipush 255, 3) := by decide +kernel
theorem d1_6 : decode method_3_code 6 = .ok (.iand, 1) := by decide +kernel
theorem d1_7 : decode method_3_code 7 = .ok (.istore_n 2, 1) := by decide +kernel
theorem d1_8 : decode method_3_code 8 = .ok (.iload_n 2, 1) := by decide +kernel
theorem d1_9 : decode method_3_code 9 = .ok (.sipush 128, 3) := by decide +kernel
theorem d1_12 : decode method_3_code 12 = .ok (.if_icmp .ge 5, 3) := by decide +kernel
theorem d1_15 : decode method_3_code 15 = .ok (.iload_n 2, 1) := by decide +kernel
theorem d1_16 : decode method_3_code 16 = .ok (.ireturn, 1) := by decide +kernel
theorem d1_17 : decode method_3_code 17 = .ok (.iload_n 2, 1) := by decide +kernel
theorem d1_18 : decode method_3_code 18 = .ok (.sipush 224, 3) := by decide +kernel
theorem d1_21 : decode method_3_code 21 = .ok (.iand, 1) := by decide +kernel
theorem d1_22 : decode method_3_code 22 = .ok (.sipush 192, 3) := by decide +kernel
theorem d1_25 : decode method_3_code 25 = .ok (.if_icmp .ne 14, 3) := by decide +kernel
theorem d1_28 : decode method_3_code 28 = .ok (.iconst 2, 1) := by decide +kernel
theorem d1_29 : decode method_3_code 29 = .ok (.istore_n 3, 1) := by decide +kernel
theorem d1_30 : decode method_3_code 30 = .ok (.iload_n 2, 1) := by decide +kernel
theorem d1_31 : decode method_3_code 31 = .ok (.bipush 31, 2) := by decide +kernel
theorem d1_33 : decode method_3_code 33 = .ok (.iand, 1) := by decide +kernel
theorem d1_34 : decode method_3_code 34 = .ok (.istore 4, 2) := by decide +kernel
theorem d1_36 : decode method_3_code 36 = .ok (.goto 49, 3) := by decide +kernel
theorem d1_39 : decode method_3_code 39 = .ok (.iload_n 2, 1) := by decide +kernel
theorem d1_40 : decode method_3_code 40 = .ok (.sipush 240, 3) := by decide +kernel
theorem d1_43 : decode method_3_code 43 = .ok (.iand, 1) := by decide +kernel
theorem d1_44 : decode method_3_code 44 = .ok (.sipush 224, 3) := by decide +kernel
theorem d1_47 : decode method_3_code 47 = .ok (.if_icmp .ne 14, 3) := by decide +kernel
theorem d1_50 : decode method_3_code 50 = .ok (.iconst 3, 1) := by decide +kernel
theorem d1_51 : decode method_3_code 51 = .ok (.istore_n 3, 1) := by decide +kernel
theorem d1_52 : decode method_3_code 52 = .ok (.iload_n 2, 1) := by decide +kernel
theorem d1_53 : decode method_3_code 53 = .ok (.bipush 15, 2) := by decide +kernel
theorem d1_55 : decode method_3_code 55 = .ok (.iand, 1) := by decide +kernel
theorem d1_56 : decode method_3_code 56 = .ok (.istore 4, 2) := by decide +kernel
theorem d1_58 : decode method_3_code 58 = .ok (.goto 27, 3) := by decide +kernel
theorem d1_61 : decode method_3_code 61 = .ok (.iload_n 2, 1) := by decide +kernel
theorem d1_62 : decode method_3_code 62 = .ok (.sipush 248, 3) := by decide +kernel
theorem d1_65 : decode method_3_code 65 = .ok (.iand, 1) := by decide +kernel
theorem d1_66 : decode method_3_code 66 = .ok (.sipush 240, 3) := by decide +kernel
theorem d1_69 : decode method_3_code 69 = .ok (.if_icmp .ne 14, 3) := by decide +kernel
theorem d1_72 : decode method_3_code 72 = .ok (.iconst 4, 1) := by decide +kernel
theorem d1_73 : decode method_3_code 73 = .ok (.istore_n 3, 1) := by decide +kernel
theorem d1_74 : decode method_3_code 74 = .ok (.iload_n 2, 1) := by decide +kernel
theorem d1_75 : decode method_3_code 75 = .ok (.bipush 7, 2) := by decide +kernel
theorem d1_77 : decode method_3_code 77 = .ok (.iand, 1) := by decide +kernel
theorem d1_78 : decode method_3_code 78 = .ok (.istore 4, 2) := by decide +kernel
theorem d1_80 : decode method_3_code 80 = .ok (.goto 5, 3) := by decide +kernel
theorem d1_83 : decode method_3_code 83 = .ok (.iconst (-1), 1) := by decide +kernel
theorem d1_84 : decode method_3_code 84 = .ok (.ireturn, 1) := by decide +kernel
theorem d1_85 : decode method_3_code 85 = .ok (.iload_n 1, 1) := by decide +kernel
theorem d1_86 : decode method_3_code 86 = .ok (.iload_n 3, 1) := by decide +kernel
theorem d1_87 : decode method_3_code 87 = .ok (.iadd, 1) := by decide +kernel
theorem d1_88 : decode method_3_code 88 = .ok (.aload_n 0, 1) := by decide +kernel
theorem d1_89 : decode method_3_code 89 = .ok (.arraylength, 1) := by decide +kernel
theorem d1_90 : decode method_3_code 90 = .ok (.if_icmp .le 5, 3) := by decide +kernel
theorem d1_93 : decode method_3_code 93 = .ok (.iconst (-1), 1) := by decide +kernel
theorem d1_94 : decode method_3_code 94 = .ok (.ireturn, 1) := by decide +kernel
theorem d1_95 : decode method_3_code 95 = .ok (.aload_n 0, 1) := by decide +kernel
theorem d1_96 : decode method_3_code 96 = .ok (.iload_n 1, 1) := by decide +kernel
theorem d1_97 : decode method_3_code 97 = .ok (.iconst 1, 1) := by decide +kernel
theorem d1_98 : decode method_3_code 98 = .ok (.iadd, 1) := by decide +kernel
theorem d1_99 : decode method_3_code 99 = .ok (.baload, 1) := by decide +kernel
theorem d1_100 : decode method_3_code 100 = .ok (.sipush 255, 3) := by decide +kernel
theorem d1_103 : decode method_3_code 103 = .ok (.iand, 1) := by decide +kernel
theorem d1_104 : decode method_3_code 104 = .ok (.istore 5, 2) := by decide +kernel
theorem d1_106 : decode method_3_code 106 = .ok (.iload 5, 2) := by decide +kernel
theorem d1_108 : decode method_3_code 108 = .ok (.sipush 192, 3) := by decide +kernel
theorem d1_111 : decode method_3_code 111 = .ok (.iand, 1) := by decide +kernel
theorem d1_112 : decode method_3_code 112 = .ok (.sipush 128, 3) := by decide +kernel
theorem d1_115 : decode method_3_code 115 = .ok (.if_icmp .eq 5, 3) := by decide +kernel
theorem d1_118 : decode method_3_code 118 = .ok (.iconst (-1), 1) := by decide +kernel
theorem d1_119 : decode method_3_code 119 = .ok (.ireturn, 1) := by decide +kernel
theorem d1_120 : decode method_3_code 120 = .ok (.iload 4, 2) := by decide +kernel
theorem d1_122 : decode method_3_code 122 = .ok (.bipush 6, 2) := by decide +kernel
theorem d1_124 : decode method_3_code 124 = .ok (.ishl, 1) := by decide +kernel
theorem d1_125 : decode method_3_code 125 = .ok (.iload 5, 2) := by decide +kernel
theorem d1_127 : decode method_3_code 127 = .ok (.bipush 63, 2) := by decide +kernel
theorem d1_129 : decode method_3_code 129 = .ok (.iand, 1) := by decide +kernel
theorem d1_130 : decode method_3_code 130 = .ok (.ior, 1) := by decide +kernel
theorem d1_131 : decode method_3_code 131 = .ok (.istore 4, 2) := by decide +kernel
theorem d1_133 : decode method_3_code 133 = .ok (.iload_n 3, 1) := by decide +kernel
theorem d1_134 : decode method_3_code 134 = .ok (.iconst 3, 1) := by decide +kernel
theorem d1_135 : decode method_3_code 135 = .ok (.if_icmp .lt 41, 3) := by decide +kernel
theorem d1_138 : decode method_3_code 138 = .ok (.aload_n 0, 1) := by decide +kernel
theorem d1_139 : decode method_3_code 139 = .ok (.iload_n 1, 1) := by decide +kernel
theorem d1_140 : decode method_3_code 140 = .ok (.iconst 2, 1) := by decide +kernel
theorem d1_141 : decode method_3_code 141 = .ok (.iadd, 1) := by decide +kernel
theorem d1_142 : decode method_3_code 142 = .ok (.baload, 1) := by decide +kernel
theorem d1_143 : decode method_3_code 143 = .ok (.sipush 255, 3) := by decide +kernel
theorem d1_146 : decode method_3_code 146 = .ok (.iand, 1) := by decide +kernel
theorem d1_147 : decode method_3_code 147 = .ok (.istore 6, 2) := by decide +kernel
theorem d1_149 : decode method_3_code 149 = .ok (.iload 6, 2) := by decide +kernel
theorem d1_151 : decode method_3_code 151 = .ok (.sipush 192, 3) := by decide +kernel
theorem d1_154 : decode method_3_code 154 = .ok (.iand, 1) := by decide +kernel
theorem d1_155 : decode method_3_code 155 = .ok (.sipush 128, 3) := by decide +kernel
theorem d1_158 : decode method_3_code 158 = .ok (.if_icmp .eq 5, 3) := by decide +kernel
theorem d1_161 : decode method_3_code 161 = .ok (.iconst (-1), 1) := by decide +kernel
theorem d1_162 : decode method_3_code 162 = .ok (.ireturn, 1) := by decide +kernel
theorem d1_163 : decode method_3_code 163 = .ok (.iload 4, 2) := by decide +kernel
theorem d1_165 : decode method_3_code 165 = .ok (.bipush 6, 2) := by decide +kernel
theorem d1_167 : decode method_3_code 167 = .ok (.ishl, 1) := by decide +kernel
theorem d1_168 : decode method_3_code 168 = .ok (.iload 6, 2) := by decide +kernel
theorem d1_170 : decode method_3_code 170 = .ok (.bipush 63, 2) := by decide +kernel
theorem d1_172 : decode method_3_code 172 = .ok (.iand, 1) := by decide +kernel
theorem d1_173 : decode method_3_code 173 = .ok (.ior, 1) := by decide +kernel
theorem d1_174 : decode method_3_code 174 = .ok (.istore 4, 2) := by decide +kernel
theorem d1_176 : decode method_3_code 176 = .ok (.iload_n 3, 1) := by decide +kernel
theorem d1_177 : decode method_3_code 177 = .ok (.iconst 4, 1) := by decide +kernel
theorem d1_178 : decode method_3_code 178 = .ok (.if_icmp .ne 41, 3) := by decide +kernel
theorem d1_181 : decode method_3_code 181 = .ok (.aload_n 0, 1) := by decide +kernel
theorem d1_182 : decode method_3_code 182 = .ok (.iload_n 1, 1) := by decide +kernel
theorem d1_183 : decode method_3_code 183 = .ok (.iconst 3, 1) := by decide +kernel
theorem d1_184 : decode method_3_code 184 = .ok (.iadd, 1) := by decide +kernel
theorem d1_185 : decode method_3_code 185 = .ok (.baload, 1) := by decide +kernel
theorem d1_186 : decode method_3_code 186 = .ok (.sipush 255, 3) := by decide +kernel
theorem d1_189 : decode method_3_code 189 = .ok (.iand, 1) := by decide +kernel
theorem d1_190 : decode method_3_code 190 = .ok (.istore 6, 2) := by decide +kernel
theorem d1_192 : decode method_3_code 192 = .ok (.iload 6, 2) := by decide +kernel
theorem d1_194 : decode method_3_code 194 = .ok (.sipush 192, 3) := by decide +kernel
theorem d1_197 : decode method_3_code 197 = .ok (.iand, 1) := by decide +kernel
theorem d1_198 : decode method_3_code 198 = .ok (.sipush 128, 3) := by decide +kernel
theorem d1_201 : decode method_3_code 201 = .ok (.if_icmp .eq 5, 3) := by decide +kernel
theorem d1_204 : decode method_3_code 204 = .ok (.iconst (-1), 1) := by decide +kernel
theorem d1_205 : decode method_3_code 205 = .ok (.ireturn, 1) := by decide +kernel
theorem d1_206 : decode method_3_code 206 = .ok (.iload 4, 2) := by decide +kernel
theorem d1_208 : decode method_3_code 208 = .ok (.bipush 6, 2) := by decide +kernel
theorem d1_210 : decode method_3_code 210 = .ok (.ishl, 1) := by decide +kernel
theorem d1_211 : decode method_3_code 211 = .ok (.iload 6, 2) := by decide +kernel
theorem d1_213 : decode method_3_code 213 = .ok (.bipush 63, 2) := by decide +kernel
theorem d1_215 : decode method_3_code 215 = .ok (.iand, 1) := by decide +kernel
theorem d1_216 : decode method_3_code 216 = .ok (.ior, 1) := by decide +kernel
theorem d1_217 : decode method_3_code 217 = .ok (.istore 4, 2) := by decide +kernel
theorem d1_219 : decode method_3_code 219 = .ok (.iload_n 3, 1) := by decide +kernel
theorem d1_220 : decode method_3_code 220 = .ok (.iconst 2, 1) := by decide +kernel
theorem d1_221 : decode method_3_code 221 = .ok (.if_icmp .ne 9, 3) := by decide +kernel
theorem d1_224 : decode method_3_code 224 = .ok (.sipush 128, 3) := by decide +kernel
theorem d1_227 : decode method_3_code 227 = .ok (.goto 16, 3) := by decide +kernel
theorem d1_230 : decode method_3_code 230 = .ok (.iload_n 3, 1) := by decide +kernel
theorem d1_231 : decode method_3_code 231 = .ok (.iconst 3, 1) := by decide +kernel
theorem d1_232 : decode method_3_code 232 = .ok (.if_icmp .ne 9, 3) := by decide +kernel
theorem d1_235 : decode method_3_code 235 = .ok (.sipush 2048, 3) := by decide +kernel
theorem d1_238 : decode method_3_code 238 = .ok (.goto 5, 3) := by decide +kernel
theorem d1_241 : decode method_3_code 241 = .ok (.ldc 19, 2) := by decide +kernel
theorem d1_243 : decode method_3_code 243 = .ok (.istore 6, 2) := by decide +kernel
theorem d1_245 : decode method_3_code 245 = .ok (.iload 4, 2) := by decide +kernel
theorem d1_247 : decode method_3_code 247 = .ok (.iload 6, 2) := by decide +kernel
theorem d1_249 : decode method_3_code 249 = .ok (.if_icmp .lt 24, 3) := by decide +kernel
theorem d1_252 : decode method_3_code 252 = .ok (.iload 4, 2) := by decide +kernel
theorem d1_254 : decode method_3_code 254 = .ok (.ldc 20, 2) := by decide +kernel
theorem d1_256 : decode method_3_code 256 = .ok (.if_icmp .gt 17, 3) := by decide +kernel
theorem d1_259 : decode method_3_code 259 = .ok (.iload 4, 2) := by decide +kernel
theorem d1_261 : decode method_3_code 261 = .ok (.ldc 21, 2) := by decide +kernel
theorem d1_263 : decode method_3_code 263 = .ok (.if_icmp .lt 12, 3) := by decide +kernel
theorem d1_266 : decode method_3_code 266 = .ok (.iload 4, 2) := by decide +kernel
theorem d1_268 : decode method_3_code 268 = .ok (.ldc 22, 2) := by decide +kernel
theorem d1_270 : decode method_3_code 270 = .ok (.if_icmp .gt 5, 3) := by decide +kernel
theorem d1_273 : decode method_3_code 273 = .ok (.iconst (-1), 1) := by decide +kernel
theorem d1_274 : decode method_3_code 274 = .ok (.ireturn, 1) := by decide +kernel
theorem d1_275 : decode method_3_code 275 = .ok (.iload 4, 2) := by decide +kernel
theorem d1_277 : decode method_3_code 277 = .ok (.ireturn, 1) := by decide +kernel
theorem pn_1 : plainFor (⟨"com/example/scanloom/scanloom/lexer/Utf8DecodePinLaw", "expected", "([BI)I"⟩ : MethodName) = true := by first | exact plainFor_of_name (by first | (simp [plainName, overriddenIn]; done) | decide +kernel) | decide +kernel
theorem ef_1 (m : MethodId) (a : Addr) (p0 : Int32) : entryFrame m #[(.ref a), (.int p0)] 7 = (mkF m 0 #[.val (.ref a), .val (.int p0), .unset, .unset, .unset, .unset, .unset] []) := by first | (simp [entryFrame, mkF, argsToLocals, Value.category]; done) | rfl
set_option maxRecDepth 65536 in
set_option maxHeartbeats 40000000 in
theorem rm1 (l : Launch) (Z : State) (a0 : Array Value) (hw : ∀ d ∈ tables_1, d.before a0 Z = true) (a : Addr) (f : Nat → Int32) (i : Nat) (p0 : Int32) (h0 : Heap) (hp : p0.toInt = i) (hi : i ≤ 4) (A : AI Z h0 a .byte 5 f) : Con l Z (⟨"com/example/scanloom/scanloom/lexer/Utf8DecodePinLaw", "expected", "([BI)I"⟩ : MethodName) method_3_code 7 (some .int) ({ frames := 0, cells := 0, slots := 0, locals := 0 } : Room) 0 0 [] #[(.ref a), (.int p0)] h0 (PQ (.int (FE f i p0)) h0) := by
  refine Con.of pn_1 ?_
  intro p e s m below meth c T C hZ hml hown hret hnm hlk X e0
  rw [ef_1]
  refine o_aloadN C X d1_0 1 rfl rfl rfl ?_
  refine o_iloadN C X d1_1 2 rfl rfl ?_
  refine o_baload C X hZ e0 A (i) hp (by omega) d1_2 3 rfl ?_
  refine o_sipush C X d1_3 6 rfl (255 : Int32) (by decide) ?_
  refine o_iand C X d1_6 7 rfl ?_
  refine o_istoreN C X d1_7 8 rfl #[.val (.ref a), .val (.int p0), .val (.int ((f i) &&& (255 : Int32))), .unset, .unset, .unset, .unset] rfl ?_
  refine o_iloadN C X d1_8 9 rfl rfl ?_
  refine o_sipush C X d1_9 12 rfl (128 : Int32) (by decide) ?_
  by_cases q1 : ((f i) &&& (255 : Int32)) < (128 : Int32)
  · skip
    refine o_icmpN C X d1_12 15 rfl (tlt q1).2.1 ?_
    refine o_iloadN C X d1_15 16 rfl rfl ?_
    exact o_retI C X hret hlk d1_16 ⟨congrArg some (congrArg _ (by rw [FE]; simp only [if_pos q1])), rfl, e0⟩ (Nat.le_refl _) (Nat.le_refl _)
  · skip
    refine o_icmpY C X d1_12 17 (by decide) (by decide) (flt q1).2.1 ?_
    refine o_iloadN C X d1_17 18 rfl rfl ?_
    refine o_sipush C X d1_18 21 rfl (224 : Int32) (by decide) ?_
    refine o_iand C X d1_21 22 rfl ?_
    refine o_sipush C X d1_22 25 rfl (192 : Int32) (by decide) ?_
    by_cases q2 : (((f i) &&& (255 : Int32)) &&& (224 : Int32)) = (192 : Int32)
    · skip
      refine o_icmpN C X d1_25 28 rfl (teq q2).2 ?_
      refine o_iconst C X d1_28 29 rfl (2 : Int32) (by decide) ?_
      refine o_istoreN C X d1_29 30 rfl #[.val (.ref a), .val (.int p0), .val (.int ((f i) &&& (255 : Int32))), .val (.int (2 : Int32)), .unset, .unset, .unset] rfl ?_
      refine o_iloadN C X d1_30 31 rfl rfl ?_
      refine o_bipush C X d1_31 33 rfl (31 : Int32) (by decide) ?_
      refine o_iand C X d1_33 34 rfl ?_
      refine o_istore C X d1_34 36 rfl #[.val (.ref a), .val (.int p0), .val (.int ((f i) &&& (255 : Int32))), .val (.int (2 : Int32)), .val (.int (((f i) &&& (255 : Int32)) &&& (31 : Int32))), .unset, .unset] rfl ?_
      refine o_goto C X d1_36 85 (by decide) (by decide) ?_
      refine o_iloadN C X d1_85 86 rfl rfl ?_
      refine o_iloadN C X d1_86 87 rfl rfl ?_
      refine o_iadd C X d1_87 88 rfl ?_
      refine o_aloadN C X d1_88 89 rfl rfl rfl ?_
      refine o_arraylength C X hZ e0 A (5 : Int32) rfl d1_89 90 rfl ?_
      by_cases q3 : (5 : Int32) < (p0 + (2 : Int32))
      · skip
        refine o_icmpN C X d1_90 93 rfl (tlt q3).2.2.2 ?_
        refine o_iconst C X d1_93 94 rfl (-1 : Int32) (by decide) ?_
        exact o_retI C X hret hlk d1_94 ⟨congrArg some (congrArg _ (by rw [FE]; simp only [if_neg q1, if_pos q2, if_pos q3])), rfl, e0⟩ (Nat.le_refl _) (Nat.le_refl _)
      · skip
        refine o_icmpY C X d1_90 95 (by decide) (by decide) (flt q3).2.2.2 ?_
        refine o_aloadN C X d1_95 96 rfl rfl rfl ?_
        refine o_iloadN C X d1_96 97 rfl rfl ?_
        refine o_iconst C X d1_97 98 rfl (1 : Int32) (by decide) ?_
        refine o_iadd C X d1_98 99 rfl ?_
        refine o_baload C X hZ e0 A (i + 1) (own_add hp hi (n := (1 : Int32)) rfl (by decide)) (Nat.lt_of_lt_of_le (by omega) (own_in hp hi (n := (2 : Int32)) (k := 2) rfl (by decide) q3)) d1_99 100 rfl ?_
        refine o_sipush C X d1_100 103 rfl (255 : Int32) (by decide) ?_
        refine o_iand C X d1_103 104 rfl ?_
        refine o_istore C X d1_104 106 rfl #[.val (.ref a), .val (.int p0), .val (.int ((f i) &&& (255 : Int32))), .val (.int (2 : Int32)), .val (.int (((f i) &&& (255 : Int32)) &&& (31 : Int32))), .val (.int ((f (i + 1)) &&& (255 : Int32))), .unset] rfl ?_
        refine o_iload C X d1_106 108 rfl rfl ?_
        refine o_sipush C X d1_108 111 rfl (192 : Int32) (by decide) ?_
        refine o_iand C X d1_111 112 rfl ?_
        refine o_sipush C X d1_112 115 rfl (128 : Int32) (by decide) ?_
        by_cases q4 : (((f (i + 1)) &&& (255 : Int32)) &&& (192 : Int32)) = (128 : Int32)
        · skip
          refine o_icmpY C X d1_115 120 (by decide) (by decide) (teq q4).1 ?_
          refine o_iload C X d1_120 122 rfl rfl ?_
          refine o_bipush C X d1_122 124 rfl (6 : Int32) (by decide) ?_
          refine o_ishl C X d1_124 125 rfl ?_
          refine o_iload C X d1_125 127 rfl rfl ?_
          refine o_bipush C X d1_127 129 rfl (63 : Int32) (by decide) ?_
          refine o_iand C X d1_129 130 rfl ?_
          refine o_ior C X d1_130 131 rfl ?_
          refine o_istore C X d1_131 133 rfl #[.val (.ref a), .val (.int p0), .val (.int ((f i) &&& (255 : Int32))), .val (.int (2 : Int32)), .val (.int (((((f i) &&& (255 : Int32)) &&& (31 : Int32)) <<< ((6 : Int32) &&& 31)) ||| (((f (i + 1)) &&& (255 : Int32)) &&& (63 : Int32)))), .val (.int ((f (i + 1)) &&& (255 : Int32))), .unset] rfl ?_
          refine o_iloadN C X d1_133 134 rfl rfl ?_
          refine o_iconst C X d1_134 135 rfl (3 : Int32) (by decide) ?_
          refine o_icmpY C X d1_135 176 (by decide) (by decide) (tlt (by decide : (2 : Int32) < (3 : Int32))).1 ?_
          refine o_iloadN C X d1_176 177 rfl rfl ?_
          refine o_iconst C X d1_177 178 rfl (4 : Int32) (by decide) ?_
          refine o_icmpY C X d1_178 219 (by decide) (by decide) (feq (by decide : ¬ ((2 : Int32) = (4 : Int32)))).2 ?_
          refine o_iloadN C X d1_219 220 rfl rfl ?_
          refine o_iconst C X d1_220 221 rfl (2 : Int32) (by decide) ?_
          refine o_icmpN C X d1_221 224 rfl (teq (by decide : (2 : Int32) = (2 : Int32))).2 ?_
          refine o_sipush C X d1_224 227 rfl (128 : Int32) (by decide) ?_
          refine o_goto C X d1_227 243 (by decide) (by decide) ?_
          refine o_istore C X d1_243 245 rfl #[.val (.ref a), .val (.int p0), .val (.int ((f i) &&& (255 : Int32))), .val (.int (2 : Int32)), .val (.int (((((f i) &&& (255 : Int32)) &&& (31 : Int32)) <<< ((6 : Int32) &&& 31)) ||| (((f (i + 1)) &&& (255 : Int32)) &&& (63 : Int32)))), .val (.int ((f (i + 1)) &&& (255 : Int32))), .val (.int (128 : Int32))] rfl ?_
          refine o_iload C X d1_245 247 rfl rfl ?_
          refine o_iload C X d1_247 249 rfl rfl ?_
          by_cases q5 : (((((f i) &&& (255 : Int32)) &&& (31 : Int32)) <<< ((6 : Int32) &&& 31)) ||| (((f (i + 1)) &&& (255 : Int32)) &&& (63 : Int32))) < (128 : Int32)
          · skip
            refine o_icmpY C X d1_249 273 (by decide) (by decide) (tlt q5).1 ?_
            refine o_iconst C X d1_273 274 rfl (-1 : Int32) (by decide) ?_
            exact o_retI C X hret hlk d1_274 ⟨congrArg some (congrArg _ (by rw [FE]; simp only [if_neg q1, if_pos q2, if_neg q3, if_pos q4, if_pos q5])), rfl, e0⟩ (Nat.le_refl _) (Nat.le_refl _)
          · skip
            refine o_icmpN C X d1_249 252 rfl (flt q5).1 ?_
            refine o_iload C X d1_252 254 rfl rfl ?_
            refine o_ldcI C X hZ hown (hw _ (List.mem_of_getElem? (i := 10) rfl)) d1_254 256 rfl ?_
            by_cases q6 : (1114111 : Int32) < (((((f i) &&& (255 : Int32)) &&& (31 : Int32)) <<< ((6 : Int32) &&& 31)) ||| (((f (i + 1)) &&& (255 : Int32)) &&& (63 : Int32)))
            · skip
              refine o_icmpY C X d1_256 273 (by decide) (by decide) (tlt q6).2.2.1 ?_
              refine o_iconst C X d1_273 274 rfl (-1 : Int32) (by decide) ?_
              exact o_retI C X hret hlk d1_274 ⟨congrArg some (congrArg _ (by rw [FE]; simp only [if_neg q1, if_pos q2, if_neg q3, if_pos q4, if_neg q5, if_pos q6])), rfl, e0⟩ (Nat.le_refl _) (Nat.le_refl _)
            · skip
              refine o_icmpN C X d1_256 259 rfl (flt q6).2.2.1 ?_
              refine o_iload C X d1_259 261 rfl rfl ?_
              refine o_ldcI C X hZ hown (hw _ (List.mem_of_getElem? (i := 11) rfl)) d1_261 263 rfl ?_
              by_cases q7 : (((((f i) &&& (255 : Int32)) &&& (31 : Int32)) <<< ((6 : Int32) &&& 31)) ||| (((f (i + 1)) &&& (255 : Int32)) &&& (63 : Int32))) < (55296 : Int32)
              · skip
                refine o_icmpY C X d1_263 275 (by decide) (by decide) (tlt q7).1 ?_
                refine o_iload C X d1_275 277 rfl rfl ?_
                exact o_retI C X hret hlk d1_277 ⟨congrArg some (congrArg _ (by rw [FE]; simp only [if_neg q1, if_pos q2, if_neg q3, if_pos q4, if_neg q5, if_neg q6, if_pos q7])), rfl, e0⟩ (Nat.le_refl _) (Nat.le_refl _)
              · skip
                refine o_icmpN C X d1_263 266 rfl (flt q7).1 ?_
                refine o_iload C X d1_266 268 rfl rfl ?_
                refine o_ldcI C X hZ hown (hw _ (List.mem_of_getElem? (i := 13) rfl)) d1_268 270 rfl ?_
                by_cases q8 : (57343 : Int32) < (((((f i) &&& (255 : Int32)) &&& (31 : Int32)) <<< ((6 : Int32) &&& 31)) ||| (((f (i + 1)) &&& (255 : Int32)) &&& (63 : Int32)))
                · skip
                  refine o_icmpY C X d1_270 275 (by decide) (by decide) (tlt q8).2.2.1 ?_
                  refine o_iload C X d1_275 277 rfl rfl ?_
                  exact o_retI C X hret hlk d1_277 ⟨congrArg some (congrArg _ (by rw [FE]; simp only [if_neg q1, if_pos q2, if_neg q3, if_pos q4, if_neg q5, if_neg q6, if_neg q7, if_pos q8])), rfl, e0⟩ (Nat.le_refl _) (Nat.le_refl _)
                · skip
                  refine o_icmpN C X d1_270 273 rfl (flt q8).2.2.1 ?_
                  refine o_iconst C X d1_273 274 rfl (-1 : Int32) (by decide) ?_
                  exact o_retI C X hret hlk d1_274 ⟨congrArg some (congrArg _ (by rw [FE]; simp only [if_neg q1, if_pos q2, if_neg q3, if_pos q4, if_neg q5, if_neg q6, if_neg q7, if_neg q8])), rfl, e0⟩ (Nat.le_refl _) (Nat.le_refl _)
        · skip
          refine o_icmpN C X d1_115 118 rfl (feq q4).1 ?_
          refine o_iconst C X d1_118 119 rfl (-1 : Int32) (by decide) ?_
          exact o_retI C X hret hlk d1_119 ⟨congrArg some (congrArg _ (by rw [FE]; simp only [if_neg q1, if_pos q2, if_neg q3, if_neg q4])), rfl, e0⟩ (Nat.le_refl _) (Nat.le_refl _)
    · skip
      refine o_icmpY C X d1_25 39 (by decide) (by decide) (feq q2).2 ?_
      refine o_iloadN C X d1_39 40 rfl rfl ?_
      refine o_sipush C X d1_40 43 rfl (240 : Int32) (by decide) ?_
      refine o_iand C X d1_43 44 rfl ?_
      refine o_sipush C X d1_44 47 rfl (224 : Int32) (by decide) ?_
      by_cases q9 : (((f i) &&& (255 : Int32)) &&& (240 : Int32)) = (224 : Int32)
      · skip
        refine o_icmpN C X d1_47 50 rfl (teq q9).2 ?_
        refine o_iconst C X d1_50 51 rfl (3 : Int32) (by decide) ?_
        refine o_istoreN C X d1_51 52 rfl #[.val (.ref a), .val (.int p0), .val (.int ((f i) &&& (255 : Int32))), .val (.int (3 : Int32)), .unset, .unset, .unset] rfl ?_
        refine o_iloadN C X d1_52 53 rfl rfl ?_
        refine o_bipush C X d1_53 55 rfl (15 : Int32) (by decide) ?_
        refine o_iand C X d1_55 56 rfl ?_
        refine o_istore C X d1_56 58 rfl #[.val (.ref a), .val (.int p0), .val (.int ((f i) &&& (255 : Int32))), .val (.int (3 : Int32)), .val (.int (((f i) &&& (255 : Int32)) &&& (15 : Int32))), .unset, .unset] rfl ?_
        refine o_goto C X d1_58 85 (by decide) (by decide) ?_
        refine o_iloadN C X d1_85 86 rfl rfl ?_
        refine o_iloadN C X d1_86 87 rfl rfl ?_
        refine o_iadd C X d1_87 88 rfl ?_
        refine o_aloadN C X d1_88 89 rfl rfl rfl ?_
        refine o_arraylength C X hZ e0 A (5 : Int32) rfl d1_89 90 rfl ?_
        by_cases q10 : (5 : Int32) < (p0 + (3 : Int32))
        · skip
          refine o_icmpN C X d1_90 93 rfl (tlt q10).2.2.2 ?_
          refine o_iconst C X d1_93 94 rfl (-1 : Int32) (by decide) ?_
          exact o_retI C X hret hlk d1_94 ⟨congrArg some (congrArg _ (by rw [FE]; simp only [if_neg q1, if_neg q2, if_pos q9, if_pos q10])), rfl, e0⟩ (Nat.le_refl _) (Nat.le_refl _)
        · skip
          refine o_icmpY C X d1_90 95 (by decide) (by decide) (flt q10).2.2.2 ?_
          refine o_aloadN C X d1_95 96 rfl rfl rfl ?_
          refine o_iloadN C X d1_96 97 rfl rfl ?_
          refine o_iconst C X d1_97 98 rfl (1 : Int32) (by decide) ?_
          refine o_iadd C X d1_98 99 rfl ?_
          refine o_baload C X hZ e0 A (i + 1) (own_add hp hi (n := (1 : Int32)) rfl (by decide)) (Nat.lt_of_lt_of_le (by omega) (own_in hp hi (n := (3 : Int32)) (k := 3) rfl (by decide) q10)) d1_99 100 rfl ?_
          refine o_sipush C X d1_100 103 rfl (255 : Int32) (by decide) ?_
          refine o_iand C X d1_103 104 rfl ?_
          refine o_istore C X d1_104 106 rfl #[.val (.ref a), .val (.int p0), .val (.int ((f i) &&& (255 : Int32))), .val (.int (3 : Int32)), .val (.int (((f i) &&& (255 : Int32)) &&& (15 : Int32))), .val (.int ((f (i + 1)) &&& (255 : Int32))), .unset] rfl ?_
          refine o_iload C X d1_106 108 rfl rfl ?_
          refine o_sipush C X d1_108 111 rfl (192 : Int32) (by decide) ?_
          refine o_iand C X d1_111 112 rfl ?_
          refine o_sipush C X d1_112 115 rfl (128 : Int32) (by decide) ?_
          by_cases q11 : (((f (i + 1)) &&& (255 : Int32)) &&& (192 : Int32)) = (128 : Int32)
          · skip
            refine o_icmpY C X d1_115 120 (by decide) (by decide) (teq q11).1 ?_
            refine o_iload C X d1_120 122 rfl rfl ?_
            refine o_bipush C X d1_122 124 rfl (6 : Int32) (by decide) ?_
            refine o_ishl C X d1_124 125 rfl ?_
            refine o_iload C X d1_125 127 rfl rfl ?_
            refine o_bipush C X d1_127 129 rfl (63 : Int32) (by decide) ?_
            refine o_iand C X d1_129 130 rfl ?_
            refine o_ior C X d1_130 131 rfl ?_
            refine o_istore C X d1_131 133 rfl #[.val (.ref a), .val (.int p0), .val (.int ((f i) &&& (255 : Int32))), .val (.int (3 : Int32)), .val (.int (((((f i) &&& (255 : Int32)) &&& (15 : Int32)) <<< ((6 : Int32) &&& 31)) ||| (((f (i + 1)) &&& (255 : Int32)) &&& (63 : Int32)))), .val (.int ((f (i + 1)) &&& (255 : Int32))), .unset] rfl ?_
            refine o_iloadN C X d1_133 134 rfl rfl ?_
            refine o_iconst C X d1_134 135 rfl (3 : Int32) (by decide) ?_
            refine o_icmpN C X d1_135 138 rfl (flt (by decide : ¬ ((3 : Int32) < (3 : Int32)))).1 ?_
            refine o_aloadN C X d1_138 139 rfl rfl rfl ?_
            refine o_iloadN C X d1_139 140 rfl rfl ?_
            refine o_iconst C X d1_140 141 rfl (2 : Int32) (by decide) ?_
            refine o_iadd C X d1_141 142 rfl ?_
            refine o_baload C X hZ e0 A (i + 2) (own_add hp hi (n := (2 : Int32)) rfl (by decide)) (Nat.lt_of_lt_of_le (by omega) (own_in hp hi (n := (3 : Int32)) (k := 3) rfl (by decide) q10)) d1_142 143 rfl ?_
            refine o_sipush C X d1_143 146 rfl (255 : Int32) (by decide) ?_
            refine o_iand C X d1_146 147 rfl ?_
            refine o_istore C X d1_147 149 rfl #[.val (.ref a), .val (.int p0), .val (.int ((f i) &&& (255 : Int32))), .val (.int (3 : Int32)), .val (.int (((((f i) &&& (255 : Int32)) &&& (15 : Int32)) <<< ((6 : Int32) &&& 31)) ||| (((f (i + 1)) &&& (255 : Int32)) &&& (63 : Int32)))), .val (.int ((f (i + 1)) &&& (255 : Int32))), .val (.int ((f (i + 2)) &&& (255 : Int32)))] rfl ?_
            refine o_iload C X d1_149 151 rfl rfl ?_
            refine o_sipush C X d1_151 154 rfl (192 : Int32) (by decide) ?_
            refine o_iand C X d1_154 155 rfl ?_
            refine o_sipush C X d1_155 158 rfl (128 : Int32) (by decide) ?_
            by_cases q12 : (((f (i + 2)) &&& (255 : Int32)) &&& (192 : Int32)) = (128 : Int32)
            · skip
              refine o_icmpY C X d1_158 163 (by decide) (by decide) (teq q12).1 ?_
              refine o_iload C X d1_163 165 rfl rfl ?_
              refine o_bipush C X d1_165 167 rfl (6 : Int32) (by decide) ?_
              refine o_ishl C X d1_167 168 rfl ?_
              refine o_iload C X d1_168 170 rfl rfl ?_
              refine o_bipush C X d1_170 172 rfl (63 : Int32) (by decide) ?_
              refine o_iand C X d1_172 173 rfl ?_
              refine o_ior C X d1_173 174 rfl ?_
              refine o_istore C X d1_174 176 rfl #[.val (.ref a), .val (.int p0), .val (.int ((f i) &&& (255 : Int32))), .val (.int (3 : Int32)), .val (.int (((((((f i) &&& (255 : Int32)) &&& (15 : Int32)) <<< ((6 : Int32) &&& 31)) ||| (((f (i + 1)) &&& (255 : Int32)) &&& (63 : Int32))) <<< ((6 : Int32) &&& 31)) ||| (((f (i + 2)) &&& (255 : Int32)) &&& (63 : Int32)))), .val (.int ((f (i + 1)) &&& (255 : Int32))), .val (.int ((f (i + 2)) &&& (255 : Int32)))] rfl ?_
              refine o_iloadN C X d1_176 177 rfl rfl ?_
              refine o_iconst C X d1_177 178 rfl (4 : Int32) (by decide) ?_
              refine o_icmpY C X d1_178 219 (by decide) (by decide) (feq (by decide : ¬ ((3 : Int32) = (4 : Int32)))).2 ?_
              refine o_iloadN C X d1_219 220 rfl rfl ?_
              refine o_iconst C X d1_220 221 rfl (2 : Int32) (by decide) ?_
              refine o_icmpY C X d1_221 230 (by decide) (by decide) (feq (by decide : ¬ ((3 : Int32) = (2 : Int32)))).2 ?_
              refine o_iloadN C X d1_230 231 rfl rfl ?_
              refine o_iconst C X d1_231 232 rfl (3 : Int32) (by decide) ?_
              refine o_icmpN C X d1_232 235 rfl (teq (by decide : (3 : Int32) = (3 : Int32))).2 ?_
              refine o_sipush C X d1_235 238 rfl (2048 : Int32) (by decide) ?_
              refine o_goto C X d1_238 243 (by decide) (by decide) ?_
              refine o_istore C X d1_243 245 rfl #[.val (.ref a), .val (.int p0), .val (.int ((f i) &&& (255 : Int32))), .val (.int (3 : Int32)), .val (.int (((((((f i) &&& (255 : Int32)) &&& (15 : Int32)) <<< ((6 : Int32) &&& 31)) ||| (((f (i + 1)) &&& (255 : Int32)) &&& (63 : Int32))) <<< ((6 : Int32) &&& 31)) ||| (((f (i + 2)) &&& (255 : Int32)) &&& (63 : Int32)))), .val (.int ((f (i + 1)) &&& (255 : Int32))), .val (.int (2048 : Int32))] rfl ?_
              refine o_iload C X d1_245 247 rfl rfl ?_
              refine o_iload C X d1_247 249 rfl rfl ?_
              by_cases q13 : (((((((f i) &&& (255 : Int32)) &&& (15 : Int32)) <<< ((6 : Int32) &&& 31)) ||| (((f (i + 1)) &&& (255 : Int32)) &&& (63 : Int32))) <<< ((6 : Int32) &&& 31)) ||| (((f (i + 2)) &&& (255 : Int32)) &&& (63 : Int32))) < (2048 : Int32)
              · skip
                refine o_icmpY C X d1_249 273 (by decide) (by decide) (tlt q13).1 ?_
                refine o_iconst C X d1_273 274 rfl (-1 : Int32) (by decide) ?_
                exact o_retI C X hret hlk d1_274 ⟨congrArg some (congrArg _ (by rw [FE]; simp only [if_neg q1, if_neg q2, if_pos q9, if_neg q10, if_pos q11, if_pos q12, if_pos q13])), rfl, e0⟩ (Nat.le_refl _) (Nat.le_refl _)
              · skip
                refine o_icmpN C X d1_249 252 rfl (flt q13).1 ?_
                refine o_iload C X d1_252 254 rfl rfl ?_
                refine o_ldcI C X hZ hown (hw _ (List.mem_of_getElem? (i := 10) rfl)) d1_254 256 rfl ?_
                by_cases q14 : (1114111 : Int32) < (((((((f i) &&& (255 : Int32)) &&& (15 : Int32)) <<< ((6 : Int32) &&& 31)) ||| (((f (i + 1)) &&& (255 : Int32)) &&& (63 : Int32))) <<< ((6 : Int32) &&& 31)) ||| (((f (i + 2)) &&& (255 : Int32)) &&& (63 : Int32)))
                · skip
                  refine o_icmpY C X d1_256 273 (by decide) (by decide) (tlt q14).2.2.1 ?_
                  refine o_iconst C X d1_273 274 rfl (-1 : Int32) (by decide) ?_
                  exact o_retI C X hret hlk d1_274 ⟨congrArg some (congrArg _ (by rw [FE]; simp only [if_neg q1, if_neg q2, if_pos q9, if_neg q10, if_pos q11, if_pos q12, if_neg q13, if_pos q14])), rfl, e0⟩ (Nat.le_refl _) (Nat.le_refl _)
                · skip
                  refine o_icmpN C X d1_256 259 rfl (flt q14).2.2.1 ?_
                  refine o_iload C X d1_259 261 rfl rfl ?_
                  refine o_ldcI C X hZ hown (hw _ (List.mem_of_getElem? (i := 11) rfl)) d1_261 263 rfl ?_
                  by_cases q15 : (((((((f i) &&& (255 : Int32)) &&& (15 : Int32)) <<< ((6 : Int32) &&& 31)) ||| (((f (i + 1)) &&& (255 : Int32)) &&& (63 : Int32))) <<< ((6 : Int32) &&& 31)) ||| (((f (i + 2)) &&& (255 : Int32)) &&& (63 : Int32))) < (55296 : Int32)
                  · skip
                    refine o_icmpY C X d1_263 275 (by decide) (by decide) (tlt q15).1 ?_
                    refine o_iload C X d1_275 277 rfl rfl ?_
                    exact o_retI C X hret hlk d1_277 ⟨congrArg some (congrArg _ (by rw [FE]; simp only [if_neg q1, if_neg q2, if_pos q9, if_neg q10, if_pos q11, if_pos q12, if_neg q13, if_neg q14, if_pos q15])), rfl, e0⟩ (Nat.le_refl _) (Nat.le_refl _)
                  · skip
                    refine o_icmpN C X d1_263 266 rfl (flt q15).1 ?_
                    refine o_iload C X d1_266 268 rfl rfl ?_
                    refine o_ldcI C X hZ hown (hw _ (List.mem_of_getElem? (i := 13) rfl)) d1_268 270 rfl ?_
                    by_cases q16 : (57343 : Int32) < (((((((f i) &&& (255 : Int32)) &&& (15 : Int32)) <<< ((6 : Int32) &&& 31)) ||| (((f (i + 1)) &&& (255 : Int32)) &&& (63 : Int32))) <<< ((6 : Int32) &&& 31)) ||| (((f (i + 2)) &&& (255 : Int32)) &&& (63 : Int32)))
                    · skip
                      refine o_icmpY C X d1_270 275 (by decide) (by decide) (tlt q16).2.2.1 ?_
                      refine o_iload C X d1_275 277 rfl rfl ?_
                      exact o_retI C X hret hlk d1_277 ⟨congrArg some (congrArg _ (by rw [FE]; simp only [if_neg q1, if_neg q2, if_pos q9, if_neg q10, if_pos q11, if_pos q12, if_neg q13, if_neg q14, if_neg q15, if_pos q16])), rfl, e0⟩ (Nat.le_refl _) (Nat.le_refl _)
                    · skip
                      refine o_icmpN C X d1_270 273 rfl (flt q16).2.2.1 ?_
                      refine o_iconst C X d1_273 274 rfl (-1 : Int32) (by decide) ?_
                      exact o_retI C X hret hlk d1_274 ⟨congrArg some (congrArg _ (by rw [FE]; simp only [if_neg q1, if_neg q2, if_pos q9, if_neg q10, if_pos q11, if_pos q12, if_neg q13, if_neg q14, if_neg q15, if_neg q16])), rfl, e0⟩ (Nat.le_refl _) (Nat.le_refl _)
            · skip
              refine o_icmpN C X d1_158 161 rfl (feq q12).1 ?_
              refine o_iconst C X d1_161 162 rfl (-1 : Int32) (by decide) ?_
              exact o_retI C X hret hlk d1_162 ⟨congrArg some (congrArg _ (by rw [FE]; simp only [if_neg q1, if_neg q2, if_pos q9, if_neg q10, if_pos q11, if_neg q12])), rfl, e0⟩ (Nat.le_refl _) (Nat.le_refl _)
          · skip
            refine o_icmpN C X d1_115 118 rfl (feq q11).1 ?_
            refine o_iconst C X d1_118 119 rfl (-1 : Int32) (by decide) ?_
            exact o_retI C X hret hlk d1_119 ⟨congrArg some (congrArg _ (by rw [FE]; simp only [if_neg q1, if_neg q2, if_pos q9, if_neg q10, if_neg q11])), rfl, e0⟩ (Nat.le_refl _) (Nat.le_refl _)
      · skip
        refine o_icmpY C X d1_47 61 (by decide) (by decide) (feq q9).2 ?_
        refine o_iloadN C X d1_61 62 rfl rfl ?_
        refine o_sipush C X d1_62 65 rfl (248 : Int32) (by decide) ?_
        refine o_iand C X d1_65 66 rfl ?_
        refine o_sipush C X d1_66 69 rfl (240 : Int32) (by decide) ?_
        by_cases q17 : (((f i) &&& (255 : Int32)) &&& (248 : Int32)) = (240 : Int32)
        · skip
          refine o_icmpN C X d1_69 72 rfl (teq q17).2 ?_
          refine o_iconst C X d1_72 73 rfl (4 : Int32) (by decide) ?_
          refine o_istoreN C X d1_73 74 rfl #[.val (.ref a), .val (.int p0), .val (.int ((f i) &&& (255 : Int32))), .val (.int (4 : Int32)), .unset, .unset, .unset] rfl ?_
          refine o_iloadN C X d1_74 75 rfl rfl ?_
          refine o_bipush C X d1_75 77 rfl (7 : Int32) (by decide) ?_
          refine o_iand C X d1_77 78 rfl ?_
          refine o_istore C X d1_78 80 rfl #[.val (.ref a), .val (.int p0), .val (.int ((f i) &&& (255 : Int32))), .val (.int (4 : Int32)), .val (.int (((f i) &&& (255 : Int32)) &&& (7 : Int32))), .unset, .unset] rfl ?_
          refine o_goto C X d1_80 85 (by decide) (by decide) ?_
          refine o_iloadN C X d1_85 86 rfl rfl ?_
          refine o_iloadN C X d1_86 87 rfl rfl ?_
          refine o_iadd C X d1_87 88 rfl ?_
          refine o_aloadN C X d1_88 89 rfl rfl rfl ?_
          refine o_arraylength C X hZ e0 A (5 : Int32) rfl d1_89 90 rfl ?_
          by_cases q18 : (5 : Int32) < (p0 + (4 : Int32))
          · skip
            refine o_icmpN C X d1_90 93 rfl (tlt q18).2.2.2 ?_
            refine o_iconst C X d1_93 94 rfl (-1 : Int32) (by decide) ?_
            exact o_retI C X hret hlk d1_94 ⟨congrArg some (congrArg _ (by rw [FE]; simp only [if_neg q1, if_neg q2, if_neg q9, if_pos q17, if_pos q18])), rfl, e0⟩ (Nat.le_refl _) (Nat.le_refl _)
          · skip
            refine o_icmpY C X d1_90 95 (by decide) (by decide) (flt q18).2.2.2 ?_
            refine o_aloadN C X d1_95 96 rfl rfl rfl ?_
            refine o_iloadN C X d1_96 97 rfl rfl ?_
            refine o_iconst C X d1_97 98 rfl (1 : Int32) (by decide) ?_
            refine o_iadd C X d1_98 99 rfl ?_
            refine o_baload C X hZ e0 A (i + 1) (own_add hp hi (n := (1 : Int32)) rfl (by decide)) (Nat.lt_of_lt_of_le (by omega) (own_in hp hi (n := (4 : Int32)) (k := 4) rfl (by decide) q18)) d1_99 100 rfl ?_
            refine o_sipush C X d1_100 103 rfl (255 : Int32) (by decide) ?_
            refine o_iand C X d1_103 104 rfl ?_
            refine o_istore C X d1_104 106 rfl #[.val (.ref a), .val (.int p0), .val (.int ((f i) &&& (255 : Int32))), .val (.int (4 : Int32)), .val (.int (((f i) &&& (255 : Int32)) &&& (7 : Int32))), .val (.int ((f (i + 1)) &&& (255 : Int32))), .unset] rfl ?_
            refine o_iload C X d1_106 108 rfl rfl ?_
            refine o_sipush C X d1_108 111 rfl (192 : Int32) (by decide) ?_
            refine o_iand C X d1_111 112 rfl ?_
            refine o_sipush C X d1_112 115 rfl (128 : Int32) (by decide) ?_
            by_cases q19 : (((f (i + 1)) &&& (255 : Int32)) &&& (192 : Int32)) = (128 : Int32)
            · skip
              refine o_icmpY C X d1_115 120 (by decide) (by decide) (teq q19).1 ?_
              refine o_iload C X d1_120 122 rfl rfl ?_
              refine o_bipush C X d1_122 124 rfl (6 : Int32) (by decide) ?_
              refine o_ishl C X d1_124 125 rfl ?_
              refine o_iload C X d1_125 127 rfl rfl ?_
              refine o_bipush C X d1_127 129 rfl (63 : Int32) (by decide) ?_
              refine o_iand C X d1_129 130 rfl ?_
              refine o_ior C X d1_130 131 rfl ?_
              refine o_istore C X d1_131 133 rfl #[.val (.ref a), .val (.int p0), .val (.int ((f i) &&& (255 : Int32))), .val (.int (4 : Int32)), .val (.int (((((f i) &&& (255 : Int32)) &&& (7 : Int32)) <<< ((6 : Int32) &&& 31)) ||| (((f (i + 1)) &&& (255 : Int32)) &&& (63 : Int32)))), .val (.int ((f (i + 1)) &&& (255 : Int32))), .unset] rfl ?_
              refine o_iloadN C X d1_133 134 rfl rfl ?_
              refine o_iconst C X d1_134 135 rfl (3 : Int32) (by decide) ?_
              refine o_icmpN C X d1_135 138 rfl (flt (by decide : ¬ ((4 : Int32) < (3 : Int32)))).1 ?_
              refine o_aloadN C X d1_138 139 rfl rfl rfl ?_
              refine o_iloadN C X d1_139 140 rfl rfl ?_
              refine o_iconst C X d1_140 141 rfl (2 : Int32) (by decide) ?_
              refine o_iadd C X d1_141 142 rfl ?_
              refine o_baload C X hZ e0 A (i + 2) (own_add hp hi (n := (2 : Int32)) rfl (by decide)) (Nat.lt_of_lt_of_le (by omega) (own_in hp hi (n := (4 : Int32)) (k := 4) rfl (by decide) q18)) d1_142 143 rfl ?_
              refine o_sipush C X d1_143 146 rfl (255 : Int32) (by decide) ?_
              refine o_iand C X d1_146 147 rfl ?_
              refine o_istore C X d1_147 149 rfl #[.val (.ref a), .val (.int p0), .val (.int ((f i) &&& (255 : Int32))), .val (.int (4 : Int32)), .val (.int (((((f i) &&& (255 : Int32)) &&& (7 : Int32)) <<< ((6 : Int32) &&& 31)) ||| (((f (i + 1)) &&& (255 : Int32)) &&& (63 : Int32)))), .val (.int ((f (i + 1)) &&& (255 : Int32))), .val (.int ((f (i + 2)) &&& (255 : Int32)))] rfl ?_
              refine o_iload C X d1_149 151 rfl rfl ?_
              refine o_sipush C X d1_151 154 rfl (192 : Int32) (by decide) ?_
              refine o_iand C X d1_154 155 rfl ?_
              refine o_sipush C X d1_155 158 rfl (128 : Int32) (by decide) ?_
              by_cases q20 : (((f (i + 2)) &&& (255 : Int32)) &&& (192 : Int32)) = (128 : Int32)
              · skip
                refine o_icmpY C X d1_158 163 (by decide) (by decide) (teq q20).1 ?_
                refine o_iload C X d1_163 165 rfl rfl ?_
                refine o_bipush C X d1_165 167 rfl (6 : Int32) (by decide) ?_
                refine o_ishl C X d1_167 168 rfl ?_
                refine o_iload C X d1_168 170 rfl rfl ?_
                refine o_bipush C X d1_170 172 rfl (63 : Int32) (by decide) ?_
                refine o_iand C X d1_172 173 rfl ?_
                refine o_ior C X d1_173 174 rfl ?_
                refine o_istore C X d1_174 176 rfl #[.val (.ref a), .val (.int p0), .val (.int ((f i) &&& (255 : Int32))), .val (.int (4 : Int32)), .val (.int (((((((f i) &&& (255 : Int32)) &&& (7 : Int32)) <<< ((6 : Int32) &&& 31)) ||| (((f (i + 1)) &&& (255 : Int32)) &&& (63 : Int32))) <<< ((6 : Int32) &&& 31)) ||| (((f (i + 2)) &&& (255 : Int32)) &&& (63 : Int32)))), .val (.int ((f (i + 1)) &&& (255 : Int32))), .val (.int ((f (i + 2)) &&& (255 : Int32)))] rfl ?_
                refine o_iloadN C X d1_176 177 rfl rfl ?_
                refine o_iconst C X d1_177 178 rfl (4 : Int32) (by decide) ?_
                refine o_icmpN C X d1_178 181 rfl (teq (by decide : (4 : Int32) = (4 : Int32))).2 ?_
                refine o_aloadN C X d1_181 182 rfl rfl rfl ?_
                refine o_iloadN C X d1_182 183 rfl rfl ?_
                refine o_iconst C X d1_183 184 rfl (3 : Int32) (by decide) ?_
                refine o_iadd C X d1_184 185 rfl ?_
                refine o_baload C X hZ e0 A (i + 3) (own_add hp hi (n := (3 : Int32)) rfl (by decide)) (Nat.lt_of_lt_of_le (by omega) (own_in hp hi (n := (4 : Int32)) (k := 4) rfl (by decide) q18)) d1_185 186 rfl ?_
                refine o_sipush C X d1_186 189 rfl (255 : Int32) (by decide) ?_
                refine o_iand C X d1_189 190 rfl ?_
                refine o_istore C X d1_190 192 rfl #[.val (.ref a), .val (.int p0), .val (.int ((f i) &&& (255 : Int32))), .val (.int (4 : Int32)), .val (.int (((((((f i) &&& (255 : Int32)) &&& (7 : Int32)) <<< ((6 : Int32) &&& 31)) ||| (((f (i + 1)) &&& (255 : Int32)) &&& (63 : Int32))) <<< ((6 : Int32) &&& 31)) ||| (((f (i + 2)) &&& (255 : Int32)) &&& (63 : Int32)))), .val (.int ((f (i + 1)) &&& (255 : Int32))), .val (.int ((f (i + 3)) &&& (255 : Int32)))] rfl ?_
                refine o_iload C X d1_192 194 rfl rfl ?_
                refine o_sipush C X d1_194 197 rfl (192 : Int32) (by decide) ?_
                refine o_iand C X d1_197 198 rfl ?_
                refine o_sipush C X d1_198 201 rfl (128 : Int32) (by decide) ?_
                by_cases q21 : (((f (i + 3)) &&& (255 : Int32)) &&& (192 : Int32)) = (128 : Int32)
                · skip
                  refine o_icmpY C X d1_201 206 (by decide) (by decide) (teq q21).1 ?_
                  refine o_iload C X d1_206 208 rfl rfl ?_
                  refine o_bipush C X d1_208 210 rfl (6 : Int32) (by decide) ?_
                  refine o_ishl C X d1_210 211 rfl ?_
                  refine o_iload C X d1_211 213 rfl rfl ?_
                  refine o_bipush C X d1_213 215 rfl (63 : Int32) (by decide) ?_
                  refine o_iand C X d1_215 216 rfl ?_
                  refine o_ior C X d1_216 217 rfl ?_
                  refine o_istore C X d1_217 219 rfl #[.val (.ref a), .val (.int p0), .val (.int ((f i) &&& (255 : Int32))), .val (.int (4 : Int32)), .val (.int (((((((((f i) &&& (255 : Int32)) &&& (7 : Int32)) <<< ((6 : Int32) &&& 31)) ||| (((f (i + 1)) &&& (255 : Int32)) &&& (63 : Int32))) <<< ((6 : Int32) &&& 31)) ||| (((f (i + 2)) &&& (255 : Int32)) &&& (63 : Int32))) <<< ((6 : Int32) &&& 31)) ||| (((f (i + 3)) &&& (255 : Int32)) &&& (63 : Int32)))), .val (.int ((f (i + 1)) &&& (255 : Int32))), .val (.int ((f (i + 3)) &&& (255 : Int32)))] rfl ?_
                  refine o_iloadN C X d1_219 220 rfl rfl ?_
                  refine o_iconst C X d1_220 221 rfl (2 : Int32) (by decide) ?_
                  refine o_icmpY C X d1_221 230 (by decide) (by decide) (feq (by decide : ¬ ((4 : Int32) = (2 : Int32)))).2 ?_
                  refine o_iloadN C X d1_230 231 rfl rfl ?_
                  refine o_iconst C X d1_231 232 rfl (3 : Int32) (by decide) ?_
                  refine o_icmpY C X d1_232 241 (by decide) (by decide) (feq (by decide : ¬ ((4 : Int32) = (3 : Int32)))).2 ?_
                  refine o_ldcI C X hZ hown (hw _ (List.mem_of_getElem? (i := 12) rfl)) d1_241 243 rfl ?_
                  refine o_istore C X d1_243 245 rfl #[.val (.ref a), .val (.int p0), .val (.int ((f i) &&& (255 : Int32))), .val (.int (4 : Int32)), .val (.int (((((((((f i) &&& (255 : Int32)) &&& (7 : Int32)) <<< ((6 : Int32) &&& 31)) ||| (((f (i + 1)) &&& (255 : Int32)) &&& (63 : Int32))) <<< ((6 : Int32) &&& 31)) ||| (((f (i + 2)) &&& (255 : Int32)) &&& (63 : Int32))) <<< ((6 : Int32) &&& 31)) ||| (((f (i + 3)) &&& (255 : Int32)) &&& (63 : Int32)))), .val (.int ((f (i + 1)) &&& (255 : Int32))), .val (.int (65536 : Int32))] rfl ?_
                  refine o_iload C X d1_245 247 rfl rfl ?_
                  refine o_iload C X d1_247 249 rfl rfl ?_
                  by_cases q22 : (((((((((f i) &&& (255 : Int32)) &&& (7 : Int32)) <<< ((6 : Int32) &&& 31)) ||| (((f (i + 1)) &&& (255 : Int32)) &&& (63 : Int32))) <<< ((6 : Int32) &&& 31)) ||| (((f (i + 2)) &&& (255 : Int32)) &&& (63 : Int32))) <<< ((6 : Int32) &&& 31)) ||| (((f (i + 3)) &&& (255 : Int32)) &&& (63 : Int32))) < (65536 : Int32)
                  · skip
                    refine o_icmpY C X d1_249 273 (by decide) (by decide) (tlt q22).1 ?_
                    refine o_iconst C X d1_273 274 rfl (-1 : Int32) (by decide) ?_
                    exact o_retI C X hret hlk d1_274 ⟨congrArg some (congrArg _ (by rw [FE]; simp only [if_neg q1, if_neg q2, if_neg q9, if_pos q17, if_neg q18, if_pos q19, if_pos q20, if_pos q21, if_pos q22])), rfl, e0⟩ (Nat.le_refl _) (Nat.le_refl _)
                  · skip
                    refine o_icmpN C X d1_249 252 rfl (flt q22).1 ?_
                    refine o_iload C X d1_252 254 rfl rfl ?_
                    refine o_ldcI C X hZ hown (hw _ (List.mem_of_getElem? (i := 10) rfl)) d1_254 256 rfl ?_
                    by_cases q23 : (1114111 : Int32) < (((((((((f i) &&& (255 : Int32)) &&& (7 : Int32)) <<< ((6 : Int32) &&& 31)) ||| (((f (i + 1)) &&& (255 : Int32)) &&& (63 : Int32))) <<< ((6 : Int32) &&& 31)) ||| (((f (i + 2)) &&& (255 : Int32)) &&& (63 : Int32))) <<< ((6 : Int32) &&& 31)) ||| (((f (i + 3)) &&& (255 : Int32)) &&& (63 : Int32)))
                    · skip
                      refine o_icmpY C X d1_256 273 (by decide) (by decide) (tlt q23).2.2.1 ?_
                      refine o_iconst C X d1_273 274 rfl (-1 : Int32) (by decide) ?_
                      exact o_retI C X hret hlk d1_274 ⟨congrArg some (congrArg _ (by rw [FE]; simp only [if_neg q1, if_neg q2, if_neg q9, if_pos q17, if_neg q18, if_pos q19, if_pos q20, if_pos q21, if_neg q22, if_pos q23])), rfl, e0⟩ (Nat.le_refl _) (Nat.le_refl _)
                    · skip
                      refine o_icmpN C X d1_256 259 rfl (flt q23).2.2.1 ?_
                      refine o_iload C X d1_259 261 rfl rfl ?_
                      refine o_ldcI C X hZ hown (hw _ (List.mem_of_getElem? (i := 11) rfl)) d1_261 263 rfl ?_
                      refine o_icmpN C X d1_263 266 rfl (flt (by simp only [Int32.lt_iff_toInt_lt, ← Int32.toInt_inj, show (6 : Int32).toInt = 6 from rfl, show (7 : Int32).toInt = 7 from rfl, show (63 : Int32).toInt = 63 from rfl, show (255 : Int32).toInt = 255 from rfl, show (55296 : Int32).toInt = 55296 from rfl, show (65536 : Int32).toInt = 65536 from rfl, show (1114111 : Int32).toInt = 1114111 from rfl] at q22 q23 ⊢; omega : ¬ ((((((((((f i) &&& (255 : Int32)) &&& (7 : Int32)) <<< ((6 : Int32) &&& 31)) ||| (((f (i + 1)) &&& (255 : Int32)) &&& (63 : Int32))) <<< ((6 : Int32) &&& 31)) ||| (((f (i + 2)) &&& (255 : Int32)) &&& (63 : Int32))) <<< ((6 : Int32) &&& 31)) ||| (((f (i + 3)) &&& (255 : Int32)) &&& (63 : Int32))) < (55296 : Int32)))).1 ?_
                      refine o_iload C X d1_266 268 rfl rfl ?_
                      refine o_ldcI C X hZ hown (hw _ (List.mem_of_getElem? (i := 13) rfl)) d1_268 270 rfl ?_
                      refine o_icmpY C X d1_270 275 (by decide) (by decide) (tlt (by simp only [Int32.lt_iff_toInt_lt, ← Int32.toInt_inj, show (6 : Int32).toInt = 6 from rfl, show (7 : Int32).toInt = 7 from rfl, show (63 : Int32).toInt = 63 from rfl, show (255 : Int32).toInt = 255 from rfl, show (57343 : Int32).toInt = 57343 from rfl, show (65536 : Int32).toInt = 65536 from rfl, show (1114111 : Int32).toInt = 1114111 from rfl] at q22 q23 ⊢; omega : (57343 : Int32) < (((((((((f i) &&& (255 : Int32)) &&& (7 : Int32)) <<< ((6 : Int32) &&& 31)) ||| (((f (i + 1)) &&& (255 : Int32)) &&& (63 : Int32))) <<< ((6 : Int32) &&& 31)) ||| (((f (i + 2)) &&& (255 : Int32)) &&& (63 : Int32))) <<< ((6 : Int32) &&& 31)) ||| (((f (i + 3)) &&& (255 : Int32)) &&& (63 : Int32))))).2.2.1 ?_
                      refine o_iload C X d1_275 277 rfl rfl ?_
                      exact o_retI C X hret hlk d1_277 ⟨congrArg some (congrArg _ (by rw [FE]; simp only [if_neg q1, if_neg q2, if_neg q9, if_pos q17, if_neg q18, if_pos q19, if_pos q20, if_pos q21, if_neg q22, if_neg q23])), rfl, e0⟩ (Nat.le_refl _) (Nat.le_refl _)
                · skip
                  refine o_icmpN C X d1_201 204 rfl (feq q21).1 ?_
                  refine o_iconst C X d1_204 205 rfl (-1 : Int32) (by decide) ?_
                  exact o_retI C X hret hlk d1_205 ⟨congrArg some (congrArg _ (by rw [FE]; simp only [if_neg q1, if_neg q2, if_neg q9, if_pos q17, if_neg q18, if_pos q19, if_pos q20, if_neg q21])), rfl, e0⟩ (Nat.le_refl _) (Nat.le_refl _)
              · skip
                refine o_icmpN C X d1_158 161 rfl (feq q20).1 ?_
                refine o_iconst C X d1_161 162 rfl (-1 : Int32) (by decide) ?_
                exact o_retI C X hret hlk d1_162 ⟨congrArg some (congrArg _ (by rw [FE]; simp only [if_neg q1, if_neg q2, if_neg q9, if_pos q17, if_neg q18, if_pos q19, if_neg q20])), rfl, e0⟩ (Nat.le_refl _) (Nat.le_refl _)
            · skip
              refine o_icmpN C X d1_115 118 rfl (feq q19).1 ?_
              refine o_iconst C X d1_118 119 rfl (-1 : Int32) (by decide) ?_
              exact o_retI C X hret hlk d1_119 ⟨congrArg some (congrArg _ (by rw [FE]; simp only [if_neg q1, if_neg q2, if_neg q9, if_pos q17, if_neg q18, if_neg q19])), rfl, e0⟩ (Nat.le_refl _) (Nat.le_refl _)
        · skip
          refine o_icmpY C X d1_69 83 (by decide) (by decide) (feq q17).2 ?_
          refine o_iconst C X d1_83 84 rfl (-1 : Int32) (by decide) ?_
          exact o_retI C X hret hlk d1_84 ⟨congrArg some (congrArg _ (by rw [FE]; simp only [if_neg q1, if_neg q2, if_neg q9, if_neg q17])), rfl, e0⟩ (Nat.le_refl _) (Nat.le_refl _)
def FD (f : Nat → Int32) (i : Nat) (p0 : Int32) : Int32 := (if ((f i) &&& (255 : Int32)) < (128 : Int32) then ((f i) &&& (255 : Int32)) else (if ((f i) &&& (255 : Int32)) < (194 : Int32) then (-1 : Int32) else (if (223 : Int32) < ((f i) &&& (255 : Int32)) then (if (239 : Int32) < ((f i) &&& (255 : Int32)) then (if (244 : Int32) < ((f i) &&& (255 : Int32)) then (-1 : Int32) else (if ((f i) &&& (255 : Int32)) = (240 : Int32) then (if (5 : Int32) < (p0 + (4 : Int32)) then (-1 : Int32) else (if ((f (i + 1)) &&& (255 : Int32)) < (144 : Int32) then (-1 : Int32) else (if (191 : Int32) < ((f (i + 1)) &&& (255 : Int32)) then (-1 : Int32) else (if ((f (i + 2)) &&& (255 : Int32)) < (128 : Int32) then (-1 : Int32) else (if (191 : Int32) < ((f (i + 2)) &&& (255 : Int32)) then (-1 : Int32) else (if ((f (i + 3)) &&& (255 : Int32)) < (128 : Int32) then (-1 : Int32) else (if (191 : Int32) < ((f (i + 3)) &&& (255 : Int32)) then (-1 : Int32) else (((((((((f i) &&& (255 : Int32)) &&& (7 : Int32)) <<< ((6 : Int32) &&& 31)) ||| (((f (i + 1)) &&& (255 : Int32)) &&& (63 : Int32))) <<< ((6 : Int32) &&& 31)) ||| (((f (i + 2)) &&& (255 : Int32)) &&& (63 : Int32))) <<< ((6 : Int32) &&& 31)) ||| (((f (i + 3)) &&& (255 : Int32)) &&& (63 : Int32)))))))))) else (if ((f i) &&& (255 : Int32)) = (244 : Int32) then (if (5 : Int32) < (p0 + (4 : Int32)) then (-1 : Int32) else (if ((f (i + 1)) &&& (255 : Int32)) < (128 : Int32) then (-1 : Int32) else (if (143 : Int32) < ((f (i + 1)) &&& (255 : Int32)) then (-1 : Int32) else (if ((f (i + 2)) &&& (255 : Int32)) < (128 : Int32) then (-1 : Int32) else (if (191 : Int32) < ((f (i + 2)) &&& (255 : Int32)) then (-1 : Int32) else (if ((f (i + 3)) &&& (255 : Int32)) < (128 : Int32) then (-1 : Int32) else (if (191 : Int32) < ((f (i + 3)) &&& (255 : Int32)) then (-1 : Int32) else (((((((((f i) &&& (255 : Int32)) &&& (7 : Int32)) <<< ((6 : Int32) &&& 31)) ||| (((f (i + 1)) &&& (255 : Int32)) &&& (63 : Int32))) <<< ((6 : Int32) &&& 31)) ||| (((f (i + 2)) &&& (255 : Int32)) &&& (63 : Int32))) <<< ((6 : Int32) &&& 31)) ||| (((f (i + 3)) &&& (255 : Int32)) &&& (63 : Int32)))))))))) else (if (5 : Int32) < (p0 + (4 : Int32)) then (-1 : Int32) else (if ((f (i + 1)) &&& (255 : Int32)) < (128 : Int32) then (-1 : Int32) else (if (191 : Int32) < ((f (i + 1)) &&& (255 : Int32)) then (-1 : Int32) else (if ((f (i + 2)) &&& (255 : Int32)) < (128 : Int32) then (-1 : Int32) else (if (191 : Int32) < ((f (i + 2)) &&& (255 : Int32)) then (-1 : Int32) else (if ((f (i + 3)) &&& (255 : Int32)) < (128 : Int32) then (-1 : Int32) else (if (191 : Int32) < ((f (i + 3)) &&& (255 : Int32)) then (-1 : Int32) else (((((((((f i) &&& (255 : Int32)) &&& (7 : Int32)) <<< ((6 : Int32) &&& 31)) ||| (((f (i + 1)) &&& (255 : Int32)) &&& (63 : Int32))) <<< ((6 : Int32) &&& 31)) ||| (((f (i + 2)) &&& (255 : Int32)) &&& (63 : Int32))) <<< ((6 : Int32) &&& 31)) ||| (((f (i + 3)) &&& (255 : Int32)) &&& (63 : Int32))))))))))))) else (if ((f i) &&& (255 : Int32)) = (224 : Int32) then (if (5 : Int32) < (p0 + (3 : Int32)) then (-1 : Int32) else (if ((f (i + 1)) &&& (255 : Int32)) < (160 : Int32) then (-1 : Int32) else (if (191 : Int32) < ((f (i + 1)) &&& (255 : Int32)) then (-1 : Int32) else (if ((f (i + 2)) &&& (255 : Int32)) < (128 : Int32) then (-1 : Int32) else (if (191 : Int32) < ((f (i + 2)) &&& (255 : Int32)) then (-1 : Int32) else (((((((f i) &&& (255 : Int32)) &&& (15 : Int32)) <<< ((6 : Int32) &&& 31)) ||| (((f (i + 1)) &&& (255 : Int32)) &&& (63 : Int32))) <<< ((6 : Int32) &&& 31)) ||| (((f (i + 2)) &&& (255 : Int32)) &&& (63 : Int32)))))))) else (if ((f i) &&& (255 : Int32)) = (237 : Int32) then (if (5 : Int32) < (p0 + (3 : Int32)) then (-1 : Int32) else (if ((f (i + 1)) &&& (255 : Int32)) < (128 : Int32) then (-1 : Int32) else (if (159 : Int32) < ((f (i + 1)) &&& (255 : Int32)) then (-1 : Int32) else (if ((f (i + 2)) &&& (255 : Int32)) < (128 : Int32) then (-1 : Int32) else (if (191 : Int32) < ((f (i + 2)) &&& (255 : Int32)) then (-1 : Int32) else (((((((f i) &&& (255 : Int32)) &&& (15 : Int32)) <<< ((6 : Int32) &&& 31)) ||| (((f (i + 1)) &&& (255 : Int32)) &&& (63 : Int32))) <<< ((6 : Int32) &&& 31)) ||| (((f (i + 2)) &&& (255 : Int32)) &&& (63 : Int32)))))))) else (if (5 : Int32) < (p0 + (3 : Int32)) then (-1 : Int32) else (if ((f (i + 1)) &&& (255 : Int32)) < (128 : Int32) then (-1 : Int32) else (if (191 : Int32) < ((f (i + 1)) &&& (255 : Int32)) then (-1 : Int32) else (if ((f (i + 2)) &&& (255 : Int32)) < (128 : Int32) then (-1 : Int32) else (if (191 : Int32) < ((f (i + 2)) &&& (255 : Int32)) then (-1 : Int32) else (((((((f i) &&& (255 : Int32)) &&& (15 : Int32)) <<< ((6 : Int32) &&& 31)) ||| (((f (i + 1)) &&& (255 : Int32)) &&& (63 : Int32))) <<< ((6 : Int32) &&& 31)) ||| (((f (i + 2)) &&& (255 : Int32)) &&& (63 : Int32))))))))))) else (if (5 : Int32) < (p0 + (2 : Int32)) then (-1 : Int32) else (if ((f (i + 1)) &&& (255 : Int32)) < (128 : Int32) then (-1 : Int32) else (if (191 : Int32) < ((f (i + 1)) &&& (255 : Int32)) then (-1 : Int32) else (((((f i) &&& (255 : Int32)) &&& (31 : Int32)) <<< ((6 : Int32) &&& 31)) ||| (((f (i + 1)) &&& (255 : Int32)) &&& (63 : Int32)))))))))
theorem d2_0 : decode prog_52_method_2_code 0 = .ok (.aload_n 0, 1) := by decide +kernel
theorem d2_1 : decode prog_52_method_2_code 1 = .ok (.iload_n 1, 1) := by decide +kernel
theorem d2_2 : decode prog_52_method_2_code 2 = .ok (.baload, 1) := by decide +kernel
theorem d2_3 : decode prog_52_method_2_code 3 = .ok (.sipush 255, 3) := by decide +kernel
theorem d2_6 : decode prog_52_method_2_code 6 = .ok (.iand, 1) := by decide +kernel
theorem d2_7 : decode prog_52_method_2_code 7 = .ok (.istore_n 2, 1) := by decide +kernel
theorem d2_8 : decode prog_52_method_2_code 8 = .ok (.iload_n 2, 1) := by decide +kernel
theorem d2_9 : decode prog_52_method_2_code 9 = .ok (.sipush 128, 3) := by decide +kernel
theorem d2_12 : decode prog_52_method_2_code 12 = .ok (.if_icmp .ge 5, 3) := by decide +kernel
theorem d2_15 : decode prog_52_method_2_code 15 = .ok (.iload_n 2, 1) := by decide +kernel
theorem d2_16 : decode prog_52_method_2_code 16 = .ok (.ireturn, 1) := by decide +kernel
theorem d2_17 : decode prog_52_method_2_code 17 = .ok (.sipush 128, 3) := by decide +kernel
theorem d2_20 : decode prog_52_method_2_code 20 = .ok (.istore 5, 2) := by decide +kernel
theorem d2_22 : decode prog_52_method_2_code 22 = .ok (.sipush 191, 3) := by decide +kernel
theorem d2_25 : decode prog_52_method_2_code 25 = .ok (.istore 6, 2) := by decide +kernel
theorem d2_27 : decode prog_52_method_2_code 27 = .ok (.iload_n 2, 1) := by decide +kernel
theorem d2_28 : decode prog_52_method_2_code 28 = .ok (.sipush 194, 3) := by decide +kernel
theorem d2_31 : decode prog_52_method_2_code 31 = .ok (.if_icmp .lt 21, 3) := by decide +kernel
theorem d2_34 : decode prog_52_method_2_code 34 = .ok (.iload_n 2, 1) := by decide +kernel
theorem d2_35 : decode prog_52_method_2_code 35 = .ok (.sipush 223, 3) := by decide +kernel
theorem d2_38 : decode prog_52_method_2_code 38 = .ok (.if_icmp .gt 14, 3) := by decide +kernel
theorem d2_41 : decode prog_52_method_2_code 41 = .ok (.iconst 2, 1) := by decide +kernel
theorem d2_42 : decode prog_52_method_2_code 42 = .ok (.istore_n 3, 1) := by decide +kernel
theorem d2_43 : decode prog_52_method_2_code 43 = .ok (.iload_n 2, 1) := by decide +kernel
theorem d2_44 : decode prog_52_method_2_code 44 = .ok (.bipush 31, 2) := by decide +kernel
theorem d2_46 : decode prog_52_method_2_code 46 = .ok (.iand, 1) := by decide +kernel
theorem d2_47 : decode prog_52_method_2_code 47 = .ok (.istore 4, 2) := by decide +kernel
theorem d2_49 : decode prog_52_method_2_code 49 = .ok (.goto 123, 3) := by decide +kernel
theorem d2_52 : decode prog_52_method_2_code 52 = .ok (.iload_n 2, 1) := by decide +kernel
theorem d2_53 : decode prog_52_method_2_code 53 = .ok (.sipush 224, 3) := by decide +kernel
theorem d2_56 : decode prog_52_method_2_code 56 = .ok (.if_icmp .lt 55, 3) := by decide +kernel
theorem d2_59 : decode prog_52_method_2_code 59 = .ok (.iload_n 2, 1) := by decide +kernel
theorem d2_60 : decode prog_52_method_2_code 60 = .ok (.sipush 239, 3) := by decide +kernel
theorem d2_63 : decode prog_52_method_2_code 63 = .ok (.if_icmp .gt 48, 3) := by decide +kernel
theorem d2_66 : decode prog_52_method_2_code 66 = .ok (.iconst 3, 1) := by decide +kernel
theorem d2_67 : decode prog_52_method_2_code 67 = .ok (.istore_n 3, 1) := by decide +kernel
theorem d2_68 : decode prog_52_method_2_code 68 = .ok (.iload_n 2, 1) := by decide +kernel
theorem d2_69 : decode prog_52_method_2_code 69 = .ok (.bipush 15, 2) := by decide +kernel
theorem d2_71 : decode prog_52_method_2_code 71 = .ok (.iand, 1) := by decide +kernel
theorem d2_72 : decode prog_52_method_2_code 72 = .ok (.istore 4, 2) := by decide +kernel
theorem d2_74 : decode prog_52_method_2_code 74 = .ok (.iload_n 2, 1) := by decide +kernel
theorem d2_75 : decode prog_52_method_2_code 75 = .ok (.sipush 224, 3) := by decide +kernel
theorem d2_78 : decode prog_52_method_2_code 78 = .ok (.if_icmp .ne 9, 3) := by decide +kernel
theorem d2_81 : decode prog_52_method_2_code 81 = .ok (.sipush 160, 3) := by decide +kernel
theorem d2_84 : decode prog_52_method_2_code 84 = .ok (.goto 5, 3) := by decide +kernel
theorem d2_87 : decode prog_52_method_2_code 87 = .ok (.iload 5, 2) := by decide +kernel
theorem d2_89 : decode prog_52_method_2_code 89 = .ok (.istore 5, 2) := by decide +kernel
theorem d2_91 : decode prog_52_method_2_code 91 = .ok (.iload_n 2, 1) := by decide +kernel
theorem d2_92 : decode prog_52_method_2_code 92 = .ok (.sipush 237, 3) := by decide +kernel
theorem d2_95 : decode prog_52_method_2_code 95 = .ok (.if_icmp .ne 9, 3) := by decide +kernel
theorem d2_98 : decode prog_52_method_2_code 98 = .ok (.sipush 159, 3) := by decide +kernel
theorem d2_101 : decode prog_52_method_2_code 101 = .ok (.goto 5, 3) := by decide +kernel
theorem d2_104 : decode prog_52_method_2_code 104 = .ok (.iload 6, 2) := by decide +kernel
theorem d2_106 : decode prog_52_method_2_code 106 = .ok (.istore 6, 2) := by decide +kernel
theorem d2_108 : decode prog_52_method_2_code 108 = .ok (.goto 64, 3) := by decide +kernel
theorem d2_111 : decode prog_52_method_2_code 111 = .ok (.iload_n 2, 1) := by decide +kernel
theorem d2_112 : decode prog_52_method_2_code 112 = .ok (.sipush 240, 3) := by decide +kernel
theorem d2_115 : decode prog_52_method_2_code 115 = .ok (.if_icmp .lt 55, 3) := by decide +kernel
theorem d2_118 : decode prog_52_method_2_code 118 = .ok (.iload_n 2, 1) := by decide +kernel
theorem d2_119 : decode prog_52_method_2_code 119 = .ok (.sipush 244, 3) := by decide +kernel
theorem d2_122 : decode prog_52_method_2_code 122 = .ok (.if_icmp .gt 48, 3) := by decide +kernel
theorem d2_125 : decode prog_52_method_2_code 125 = .ok (.iconst 4, 1) := by decide +kernel
theorem d2_126 : decode prog_52_method_2_code 126 = .ok (.istore_n 3, 1) := by decide +kernel
theorem d2_127 : decode prog_52_method_2_code 127 = .ok (.iload_n 2, 1) := by decide +kernel
theorem d2_128 : decode prog_52_method_2_code 128 = .ok (.bipush 7, 2) := by decide +kernel
theorem d2_130 : decode prog_52_method_2_code 130 = .ok (.iand, 1) := by decide +kernel
theorem d2_131 : decode prog_52_method_2_code 131 = .ok (.istore 4, 2) := by decide +kernel
theorem d2_133 : decode prog_52_method_2_code 133 = .ok (.iload_n 2, 1) := by decide +kernel
theorem d2_134 : decode prog_52_method_2_code 134 = .ok (.sipush 240, 3) := by decide +kernel
theorem d2_137 : decode prog_52_method_2_code 137 = .ok (.if_icmp .ne 9, 3) := by decide +kernel
theorem d2_140 : decode prog_52_method_2_code 140 = .ok (.sipush 144, 3) := by decide +kernel
theorem d2_143 : decode prog_52_method_2_code 143 = .ok (.goto 5, 3) := by decide +kernel
theorem d2_146 : decode prog_52_method_2_code 146 = .ok (.iload 5, 2) := by decide +kernel
theorem d2_148 : decode prog_52_method_2_code 148 = .ok (.istore 5, 2) := by decide +kernel
theorem d2_150 : decode prog_52_method_2_code 150 = .ok (.iload_n 2, 1) := by decide +kernel
theorem d2_151 : decode prog_52_method_2_code 151 = .ok (.sipush 244, 3) := by decide +kernel
theorem d2_154 : decode prog_52_method_2_code 154 = .ok (.if_icmp .ne 9, 3) := by decide +kernel
theorem d2_157 : decode prog_52_method_2_code 157 = .ok (.sipush 143, 3) := by decide +kernel
theorem d2_160 : decode prog_52_method_2_code 160 = .ok (.goto 5, 3) := by decide +kernel
theorem d2_163 : decode prog_52_method_2_code 163 = .ok (.iload 6, 2) := by decide +kernel
theorem d2_165 : decode prog_52_method_2_code 165 = .ok (.istore 6, 2) := by decide +kernel
theorem d2_167 : decode prog_52_method_2_code 167 = .ok (.goto 5, 3) := by decide +kernel
theorem d2_170 : decode prog_52_method_2_code 170 = .ok (.iconst (-1), 1) := by decide +kernel
theorem d2_171 : decode prog_52_method_2_code 171 = .ok (.ireturn, 1) := by decide +kernel
theorem d2_172 : decode prog_52_method_2_code 172 = .ok (.iload_n 1, 1) := by decide +kernel
theorem d2_173 : decode prog_52_method_2_code 173 = .ok (.iload_n 3, 1) := by decide +kernel
theorem d2_174 : decode prog_52_method_2_code 174 = .ok (.iadd, 1) := by decide +kernel
theorem d2_175 : decode prog_52_method_2_code 175 = .ok (.aload_n 0, 1) := by decide +kernel
theorem d2_176 : decode prog_52_method_2_code 176 = .ok (.arraylength, 1) := by decide +kernel
theorem d2_177 : decode prog_52_method_2_code 177 = .ok (.if_icmp .le 5, 3) := by decide +kernel
theorem d2_180 : decode prog_52_method_2_code 180 = .ok (.iconst (-1), 1) := by decide +kernel
theorem d2_181 : decode prog_52_method_2_code 181 = .ok (.ireturn, 1) := by decide +kernel
theorem d2_182 : decode prog_52_method_2_code 182 = .ok (.iconst 1, 1) := by decide +kernel
theorem d2_183 : decode prog_52_method_2_code 183 = .ok (.istore 7, 2) := by decide +kernel
theorem d2_185 : decode prog_52_method_2_code 185 = .ok (.iload 7, 2) := by decide +kernel
theorem d2_187 : decode prog_52_method_2_code 187 = .ok (.iload_n 3, 1) := by decide +kernel
theorem d2_188 : decode prog_52_method_2_code 188 = .ok (.if_icmp .ge 60, 3) := by decide +kernel
theorem d2_191 : decode prog_52_method_2_code 191 = .ok (.aload_n 0, 1) := by decide +kernel
theorem d2_192 : decode prog_52_method_2_code 192 = .ok (.iload_n 1, 1) := by decide +kernel
theorem d2_193 : decode prog_52_method_2_code 193 = .ok (.iload 7, 2) := by decide +kernel
theorem d2_195 : decode prog_52_method_2_code 195 = .ok (.iadd, 1) := by decide +kernel
theorem d2_196 : decode prog_52_method_2_code 196 = .ok (.baload, 1) := by decide +kernel
theorem d2_197 : decode prog_52_method_2_code 197 = .ok (.sipush 255, 3) := by decide +kernel
theorem d2_200 : decode prog_52_method_2_code 200 = .ok (.iand, 1) := by decide +kernel
theorem d2_201 : decode prog_52_method_2_code 201 = .ok (.istore 8, 2) := by decide +kernel
theorem d2_203 : decode prog_52_method_2_code 203 = .ok (.iload 8, 2) := by decide +kernel
theorem d2_205 : decode prog_52_method_2_code 205 = .ok (.iload 5, 2) := by decide +kernel
theorem d2_207 : decode prog_52_method_2_code 207 = .ok (.if_icmp .lt 10, 3) := by decide +kernel
theorem d2_210 : decode prog_52_method_2_code 210 = .ok (.iload 8, 2) := by decide +kernel
theorem d2_212 : decode prog_52_method_2_code 212 = .ok (.iload 6, 2) := by decide +kernel
theorem d2_214 : decode prog_52_method_2_code 214 = .ok (.if_icmp .le 5, 3) := by decide +kernel
theorem d2_217 : decode prog_52_method_2_code 217 = .ok (.iconst (-1), 1) := by decide +kernel
theorem d2_218 : decode prog_52_method_2_code 218 = .ok (.ireturn, 1) := by decide +kernel
theorem d2_219 : decode prog_52_method_2_code 219 = .ok (.sipush 128, 3) := by decide +kernel
theorem d2_222 : decode prog_52_method_2_code 222 = .ok (.istore 5, 2) := by decide +kernel
theorem d2_224 : decode prog_52_method_2_code 224 = .ok (.sipush 191, 3) := by decide +kernel
theorem d2_227 : decode prog_52_method_2_code 227 = .ok (.istore 6, 2) := by decide +kernel
theorem d2_229 : decode prog_52_method_2_code 229 = .ok (.iload 4, 2) := by decide +kernel
theorem d2_231 : decode prog_52_method_2_code 231 = .ok (.bipush 6, 2) := by decide +kernel
theorem d2_233 : decode prog_52_method_2_code 233 = .ok (.ishl, 1) := by decide +kernel
theorem d2_234 : decode prog_52_method_2_code 234 = .ok (.iload 8, 2) := by decide +kernel
theorem d2_236 : decode prog_52_method_2_code 236 = .ok (.bipush 63, 2) := by decide +kernel
theorem d2_238 : decode prog_52_method_2_code 238 = .ok (.iand, 1) := by decide +kernel
theorem d2_239 : decode prog_52_method_2_code 239 = .ok (.ior, 1) := by decide +kernel
theorem d2_240 : decode prog_52_method_2_code 240 = .ok (.istore 4, 2) := by decide +kernel
theorem d2_242 : decode prog_52_method_2_code 242 = .ok (.iinc 7 1, 3) := by decide +kernel
theorem d2_245 : decode prog_52_method_2_code 245 = .ok (.goto (-60), 3) := by decide +kernel
theorem d2_248 : decode prog_52_method_2_code 248 = .ok (.iload 4, 2) := by decide +kernel
theorem d2_250 : decode prog_52_method_2_code 250 = .ok (.ireturn, 1) := by decide +kernel
theorem pn_2 : plainFor (⟨"com/example/scanloom/scanloom/lexer/Utf8", "decode", "([BI)I"⟩ : MethodName) = true := by first | exact plainFor_of_name (by first | (simp [plainName, overriddenIn]; done) | decide +kernel) | decide +kernel
theorem ef_2 (m : MethodId) (a : Addr) (p0 : Int32) : entryFrame m #[(.ref a), (.int p0)] 9 = (mkF m 0 #[.val (.ref a), .val (.int p0), .unset, .unset, .unset, .unset, .unset, .unset, .unset] []) := by first | (simp [entryFrame, mkF, argsToLocals, Value.category]; done) | rfl
set_option maxRecDepth 65536 in
set_option maxHeartbeats 40000000 in
theorem rm2 (l : Launch) (Z : State) (a0 : Array Value) (hw : ∀ d ∈ tables_1, d.before a0 Z = true) (a : Addr) (f : Nat → Int32) (i : Nat) (p0 : Int32) (h0 : Heap) (hp : p0.toInt = i) (hi : i ≤ 4) (A : AI Z h0 a .byte 5 f) : Con l Z (⟨"com/example/scanloom/scanloom/lexer/Utf8", "decode", "([BI)I"⟩ : MethodName) prog_52_method_2_code 9 (some .int) ({ frames := 0, cells := 0, slots := 0, locals := 0 } : Room) 0 0 [] #[(.ref a), (.int p0)] h0 (PQ (.int (FD f i p0)) h0) := by
  refine Con.of pn_2 ?_
  intro p e s m below meth c T C hZ hml hown hret hnm hlk X e0
  rw [ef_2]
  refine o_aloadN C X d2_0 1 rfl rfl rfl ?_
  refine o_iloadN C X d2_1 2 rfl rfl ?_
  refine o_baload C X hZ e0 A (i) hp (by omega) d2_2 3 rfl ?_
  refine o_sipush C X d2_3 6 rfl (255 : Int32) (by decide) ?_
  refine o_iand C X d2_6 7 rfl ?_
  refine o_istoreN C X d2_7 8 rfl #[.val (.ref a), .val (.int p0), .val (.int ((f i) &&& (255 : Int32))), .unset, .unset, .unset, .unset, .unset, .unset] rfl ?_
  refine o_iloadN C X d2_8 9 rfl rfl ?_
  refine o_sipush C X d2_9 12 rfl (128 : Int32) (by decide) ?_
  by_cases q24 : ((f i) &&& (255 : Int32)) < (128 : Int32)
  · skip
    refine o_icmpN C X d2_12 15 rfl (tlt q24).2.1 ?_
    refine o_iloadN C X d2_15 16 rfl rfl ?_
    exact o_retI C X hret hlk d2_16 ⟨congrArg some (congrArg _ (by rw [FD]; simp only [if_pos q24])), rfl, e0⟩ (Nat.le_refl _) (Nat.le_refl _)
  · skip
    refine o_icmpY C X d2_12 17 (by decide) (by decide) (flt q24).2.1 ?_
    refine o_sipush C X d2_17 20 rfl (128 : Int32) (by decide) ?_
    refine o_istore C X d2_20 22 rfl #[.val (.ref a), .val (.int p0), .val (.int ((f i) &&& (255 : Int32))), .unset, .unset, .val (.int (128 : Int32)), .unset, .unset, .unset] rfl ?_
    refine o_sipush C X d2_22 25 rfl (191 : Int32) (by decide) ?_
    refine o_istore C X d2_25 27 rfl #[.val (.ref a), .val (.int p0), .val (.int ((f i) &&& (255 : Int32))), .unset, .unset, .val (.int (128 : Int32)), .val (.int (191 : Int32)), .unset, .unset] rfl ?_
    refine o_iloadN C X d2_27 28 rfl rfl ?_
    refine o_sipush C X d2_28 31 rfl (194 : Int32) (by decide) ?_
    by_cases q25 : ((f i) &&& (255 : Int32)) < (194 : Int32)
    · skip
      refine o_icmpY C X d2_31 52 (by decide) (by decide) (tlt q25).1 ?_
      refine o_iloadN C X d2_52 53 rfl rfl ?_
      refine o_sipush C X d2_53 56 rfl (224 : Int32) (by decide) ?_
      refine o_icmpY C X d2_56 111 (by decide) (by decide) (tlt (by simp only [Int32.lt_iff_toInt_lt, ← Int32.toInt_inj, show (128 : Int32).toInt = 128 from rfl, show (194 : Int32).toInt = 194 from rfl, show (224 : Int32).toInt = 224 from rfl, show (255 : Int32).toInt = 255 from rfl] at q24 q25 ⊢; omega : ((f i) &&& (255 : Int32)) < (224 : Int32))).1 ?_
      refine o_iloadN C X d2_111 112 rfl rfl ?_
      refine o_sipush C X d2_112 115 rfl (240 : Int32) (by decide) ?_
      refine o_icmpY C X d2_115 170 (by decide) (by decide) (tlt (by simp only [Int32.lt_iff_toInt_lt, ← Int32.toInt_inj, show (128 : Int32).toInt = 128 from rfl, show (194 : Int32).toInt = 194 from rfl, show (240 : Int32).toInt = 240 from rfl, show (255 : Int32).toInt = 255 from rfl] at q24 q25 ⊢; omega : ((f i) &&& (255 : Int32)) < (240 : Int32))).1 ?_
      refine o_iconst C X d2_170 171 rfl (-1 : Int32) (by decide) ?_
      exact o_retI C X hret hlk d2_171 ⟨congrArg some (congrArg _ (by rw [FD]; simp only [if_neg q24, if_pos q25])), rfl, e0⟩ (Nat.le_refl _) (Nat.le_refl _)
    · skip
      refine o_icmpN C X d2_31 34 rfl (flt q25).1 ?_
      refine o_iloadN C X d2_34 35 rfl rfl ?_
      refine o_sipush C X d2_35 38 rfl (223 : Int32) (by decide) ?_
      by_cases q26 : (223 : Int32) < ((f i) &&& (255 : Int32))
      · skip
        refine o_icmpY C X d2_38 52 (by decide) (by decide) (tlt q26).2.2.1 ?_
        refine o_iloadN C X d2_52 53 rfl rfl ?_
        refine o_sipush C X d2_53 56 rfl (224 : Int32) (by decide) ?_
        refine o_icmpN C X d2_56 59 rfl (flt (by simp only [Int32.lt_iff_toInt_lt, ← Int32.toInt_inj, show (128 : Int32).toInt = 128 from rfl, show (194 : Int32).toInt = 194 from rfl, show (223 : Int32).toInt = 223 from rfl, show (224 : Int32).toInt = 224 from rfl, show (255 : Int32).toInt = 255 from rfl] at q24 q25 q26 ⊢; omega : ¬ (((f i) &&& (255 : Int32)) < (224 : Int32)))).1 ?_
        refine o_iloadN C X d2_59 60 rfl rfl ?_
        refine o_sipush C X d2_60 63 rfl (239 : Int32) (by decide) ?_
        by_cases q27 : (239 : Int32) < ((f i) &&& (255 : Int32))
        · skip
          refine o_icmpY C X d2_63 111 (by decide) (by decide) (tlt q27).2.2.1 ?_
          refine o_iloadN C X d2_111 112 rfl rfl ?_
          refine o_sipush C X d2_112 115 rfl (240 : Int32) (by decide) ?_
          refine o_icmpN C X d2_115 118 rfl (flt (by simp only [Int32.lt_iff_toInt_lt, ← Int32.toInt_inj, show (128 : Int32).toInt = 128 from rfl, show (194 : Int32).toInt = 194 from rfl, show (223 : Int32).toInt = 223 from rfl, show (239 : Int32).toInt = 239 from rfl, show (240 : Int32).toInt = 240 from rfl, show (255 : Int32).toInt = 255 from rfl] at q24 q25 q26 q27 ⊢; omega : ¬ (((f i) &&& (255 : Int32)) < (240 : Int32)))).1 ?_
          refine o_iloadN C X d2_118 119 rfl rfl ?_
          refine o_sipush C X d2_119 122 rfl (244 : Int32) (by decide) ?_
          by_cases q28 : (244 : Int32) < ((f i) &&& (255 : Int32))
          · skip
            refine o_icmpY C X d2_122 170 (by decide) (by decide) (tlt q28).2.2.1 ?_
            refine o_iconst C X d2_170 171 rfl (-1 : Int32) (by decide) ?_
            exact o_retI C X hret hlk d2_171 ⟨congrArg some (congrArg _ (by rw [FD]; simp only [if_neg q24, if_neg q25, if_pos q26, if_pos q27, if_pos q28])), rfl, e0⟩ (Nat.le_refl _) (Nat.le_refl _)
          · skip
            refine o_icmpN C X d2_122 125 rfl (flt q28).2.2.1 ?_
            refine o_iconst C X d2_125 126 rfl (4 : Int32) (by decide) ?_
            refine o_istoreN C X d2_126 127 rfl #[.val (.ref a), .val (.int p0), .val (.int ((f i) &&& (255 : Int32))), .val (.int (4 : Int32)), .unset, .val (.int (128 : Int32)), .val (.int (191 : Int32)), .unset, .unset] rfl ?_
            refine o_iloadN C X d2_127 128 rfl rfl ?_
            refine o_bipush C X d2_128 130 rfl (7 : Int32) (by decide) ?_
            refine o_iand C X d2_130 131 rfl ?_
            refine o_istore C X d2_131 133 rfl #[.val (.ref a), .val (.int p0), .val (.int ((f i) &&& (255 : Int32))), .val (.int (4 : Int32)), .val (.int (((f i) &&& (255 : Int32)) &&& (7 : Int32))), .val (.int (128 : Int32)), .val (.int (191 : Int32)), .unset, .unset] rfl ?_
            refine o_iloadN C X d2_133 134 rfl rfl ?_
            refine o_sipush C X d2_134 137 rfl (240 : Int32) (by decide) ?_
            by_cases q29 : ((f i) &&& (255 : Int32)) = (240 : Int32)
            · skip
              refine o_icmpN C X d2_137 140 rfl (teq q29).2 ?_
              refine o_sipush C X d2_140 143 rfl (144 : Int32) (by decide) ?_
              refine o_goto C X d2_143 148 (by decide) (by decide) ?_
              refine o_istore C X d2_148 150 rfl #[.val (.ref a), .val (.int p0), .val (.int ((f i) &&& (255 : Int32))), .val (.int (4 : Int32)), .val (.int (((f i) &&& (255 : Int32)) &&& (7 : Int32))), .val (.int (144 : Int32)), .val (.int (191 : Int32)), .unset, .unset] rfl ?_
              refine o_iloadN C X d2_150 151 rfl rfl ?_
              refine o_sipush C X d2_151 154 rfl (244 : Int32) (by decide) ?_
              refine o_icmpY C X d2_154 163 (by decide) (by decide) (feq (by simp only [Int32.lt_iff_toInt_lt, ← Int32.toInt_inj, show (128 : Int32).toInt = 128 from rfl, show (194 : Int32).toInt = 194 from rfl, show (223 : Int32).toInt = 223 from rfl, show (239 : Int32).toInt = 239 from rfl, show (240 : Int32).toInt = 240 from rfl, show (244 : Int32).toInt = 244 from rfl, show (255 : Int32).toInt = 255 from rfl] at q24 q25 q26 q27 q28 q29 ⊢; omega : ¬ (((f i) &&& (255 : Int32)) = (244 : Int32)))).2 ?_
              refine o_iload C X d2_163 165 rfl rfl ?_
              refine o_istore C X d2_165 167 rfl #[.val (.ref a), .val (.int p0), .val (.int ((f i) &&& (255 : Int32))), .val (.int (4 : Int32)), .val (.int (((f i) &&& (255 : Int32)) &&& (7 : Int32))), .val (.int (144 : Int32)), .val (.int (191 : Int32)), .unset, .unset] rfl ?_
              refine o_goto C X d2_167 172 (by decide) (by decide) ?_
              refine o_iloadN C X d2_172 173 rfl rfl ?_
              refine o_iloadN C X d2_173 174 rfl rfl ?_
              refine o_iadd C X d2_174 175 rfl ?_
              refine o_aloadN C X d2_175 176 rfl rfl rfl ?_
              refine o_arraylength C X hZ e0 A (5 : Int32) rfl d2_176 177 rfl ?_
              by_cases q30 : (5 : Int32) < (p0 + (4 : Int32))
              · skip
                refine o_icmpN C X d2_177 180 rfl (tlt q30).2.2.2 ?_
                refine o_iconst C X d2_180 181 rfl (-1 : Int32) (by decide) ?_
                exact o_retI C X hret hlk d2_181 ⟨congrArg some (congrArg _ (by rw [FD]; simp only [if_neg q24, if_neg q25, if_pos q26, if_pos q27, if_neg q28, if_pos q29, if_pos q30])), rfl, e0⟩ (Nat.le_refl _) (Nat.le_refl _)
              · skip
                refine o_icmpY C X d2_177 182 (by decide) (by decide) (flt q30).2.2.2 ?_
                refine o_iconst C X d2_182 183 rfl (1 : Int32) (by decide) ?_
                refine o_istore C X d2_183 185 rfl #[.val (.ref a), .val (.int p0), .val (.int ((f i) &&& (255 : Int32))), .val (.int (4 : Int32)), .val (.int (((f i) &&& (255 : Int32)) &&& (7 : Int32))), .val (.int (144 : Int32)), .val (.int (191 : Int32)), .val (.int (1 : Int32)), .unset] rfl ?_
                refine o_iload C X d2_185 187 rfl rfl ?_
                refine o_iloadN C X d2_187 188 rfl rfl ?_
                refine o_icmpN C X d2_188 191 rfl (tlt (by decide : (1 : Int32) < (4 : Int32))).2.1 ?_
                refine o_aloadN C X d2_191 192 rfl rfl rfl ?_
                refine o_iloadN C X d2_192 193 rfl rfl ?_
                refine o_iload C X d2_193 195 rfl rfl ?_
                refine o_iadd C X d2_195 196 rfl ?_
                refine o_baload C X hZ e0 A (i + 1) (own_add hp hi (n := (1 : Int32)) rfl (by decide)) (Nat.lt_of_lt_of_le (by omega) (own_in hp hi (n := (4 : Int32)) (k := 4) rfl (by decide) q30)) d2_196 197 rfl ?_
                refine o_sipush C X d2_197 200 rfl (255 : Int32) (by decide) ?_
                refine o_iand C X d2_200 201 rfl ?_
                refine o_istore C X d2_201 203 rfl #[.val (.ref a), .val (.int p0), .val (.int ((f i) &&& (255 : Int32))), .val (.int (4 : Int32)), .val (.int (((f i) &&& (255 : Int32)) &&& (7 : Int32))), .val (.int (144 : Int32)), .val (.int (191 : Int32)), .val (.int (1 : Int32)), .val (.int ((f (i + 1)) &&& (255 : Int32)))] rfl ?_
                refine o_iload C X d2_203 205 rfl rfl ?_
                refine o_iload C X d2_205 207 rfl rfl ?_
                by_cases q31 : ((f (i + 1)) &&& (255 : Int32)) < (144 : Int32)
                · skip
                  refine o_icmpY C X d2_207 217 (by decide) (by decide) (tlt q31).1 ?_
                  refine o_iconst C X d2_217 218 rfl (-1 : Int32) (by decide) ?_
                  exact o_retI C X hret hlk d2_218 ⟨congrArg some (congrArg _ (by rw [FD]; simp only [if_neg q24, if_neg q25, if_pos q26, if_pos q27, if_neg q28, if_pos q29, if_neg q30, if_pos q31])), rfl, e0⟩ (Nat.le_refl _) (Nat.le_refl _)
                · skip
                  refine o_icmpN C X d2_207 210 rfl (flt q31).1 ?_
                  refine o_iload C X d2_210 212 rfl rfl ?_
                  refine o_iload C X d2_212 214 rfl rfl ?_
                  by_cases q32 : (191 : Int32) < ((f (i + 1)) &&& (255 : Int32))
                  · skip
                    refine o_icmpN C X d2_214 217 rfl (tlt q32).2.2.2 ?_
                    refine o_iconst C X d2_217 218 rfl (-1 : Int32) (by decide) ?_
                    exact o_retI C X hret hlk d2_218 ⟨congrArg some (congrArg _ (by rw [FD]; simp only [if_neg q24, if_neg q25, if_pos q26, if_pos q27, if_neg q28, if_pos q29, if_neg q30, if_neg q31, if_pos q32])), rfl, e0⟩ (Nat.le_refl _) (Nat.le_refl _)
                  · skip
                    refine o_icmpY C X d2_214 219 (by decide) (by decide) (flt q32).2.2.2 ?_
                    refine o_sipush C X d2_219 222 rfl (128 : Int32) (by decide) ?_
                    refine o_istore C X d2_222 224 rfl #[.val (.ref a), .val (.int p0), .val (.int ((f i) &&& (255 : Int32))), .val (.int (4 : Int32)), .val (.int (((f i) &&& (255 : Int32)) &&& (7 : Int32))), .val (.int (128 : Int32)), .val (.int (191 : Int32)), .val (.int (1 : Int32)), .val (.int ((f (i + 1)) &&& (255 : Int32)))] rfl ?_
                    refine o_sipush C X d2_224 227 rfl (191 : Int32) (by decide) ?_
                    refine o_istore C X d2_227 229 rfl #[.val (.ref a), .val (.int p0), .val (.int ((f i) &&& (255 : Int32))), .val (.int (4 : Int32)), .val (.int (((f i) &&& (255 : Int32)) &&& (7 : Int32))), .val (.int (128 : Int32)), .val (.int (191 : Int32)), .val (.int (1 : Int32)), .val (.int ((f (i + 1)) &&& (255 : Int32)))] rfl ?_
                    refine o_iload C X d2_229 231 rfl rfl ?_
                    refine o_bipush C X d2_231 233 rfl (6 : Int32) (by decide) ?_
                    refine o_ishl C X d2_233 234 rfl ?_
                    refine o_iload C X d2_234 236 rfl rfl ?_
                    refine o_bipush C X d2_236 238 rfl (63 : Int32) (by decide) ?_
                    refine o_iand C X d2_238 239 rfl ?_
                    refine o_ior C X d2_239 240 rfl ?_
                    refine o_istore C X d2_240 242 rfl #[.val (.ref a), .val (.int p0), .val (.int ((f i) &&& (255 : Int32))), .val (.int (4 : Int32)), .val (.int (((((f i) &&& (255 : Int32)) &&& (7 : Int32)) <<< ((6 : Int32) &&& 31)) ||| (((f (i + 1)) &&& (255 : Int32)) &&& (63 : Int32)))), .val (.int (128 : Int32)), .val (.int (191 : Int32)), .val (.int (1 : Int32)), .val (.int ((f (i + 1)) &&& (255 : Int32)))] rfl ?_
                    refine o_iinc C X (2 : Int32) d2_242 245 rfl #[.val (.ref a), .val (.int p0), .val (.int ((f i) &&& (255 : Int32))), .val (.int (4 : Int32)), .val (.int (((((f i) &&& (255 : Int32)) &&& (7 : Int32)) <<< ((6 : Int32) &&& 31)) ||| (((f (i + 1)) &&& (255 : Int32)) &&& (63 : Int32)))), .val (.int (128 : Int32)), .val (.int (191 : Int32)), .val (.int (2 : Int32)), .val (.int ((f (i + 1)) &&& (255 : Int32)))] rfl (by decide) rfl ?_
                    refine o_goto C X d2_245 185 (by decide) (by decide) ?_
                    refine o_iload C X d2_185 187 rfl rfl ?_
                    refine o_iloadN C X d2_187 188 rfl rfl ?_
                    refine o_icmpN C X d2_188 191 rfl (tlt (by decide : (2 : Int32) < (4 : Int32))).2.1 ?_
                    refine o_aloadN C X d2_191 192 rfl rfl rfl ?_
                    refine o_iloadN C X d2_192 193 rfl rfl ?_
                    refine o_iload C X d2_193 195 rfl rfl ?_
                    refine o_iadd C X d2_195 196 rfl ?_
                    refine o_baload C X hZ e0 A (i + 2) (own_add hp hi (n := (2 : Int32)) rfl (by decide)) (Nat.lt_of_lt_of_le (by omega) (own_in hp hi (n := (4 : Int32)) (k := 4) rfl (by decide) q30)) d2_196 197 rfl ?_
                    refine o_sipush C X d2_197 200 rfl (255 : Int32) (by decide) ?_
                    refine o_iand C X d2_200 201 rfl ?_
                    refine o_istore C X d2_201 203 rfl #[.val (.ref a), .val (.int p0), .val (.int ((f i) &&& (255 : Int32))), .val (.int (4 : Int32)), .val (.int (((((f i) &&& (255 : Int32)) &&& (7 : Int32)) <<< ((6 : Int32) &&& 31)) ||| (((f (i + 1)) &&& (255 : Int32)) &&& (63 : Int32)))), .val (.int (128 : Int32)), .val (.int (191 : Int32)), .val (.int (2 : Int32)), .val (.int ((f (i + 2)) &&& (255 : Int32)))] rfl ?_
                    refine o_iload C X d2_203 205 rfl rfl ?_
                    refine o_iload C X d2_205 207 rfl rfl ?_
                    by_cases q33 : ((f (i + 2)) &&& (255 : Int32)) < (128 : Int32)
                    · skip
                      refine o_icmpY C X d2_207 217 (by decide) (by decide) (tlt q33).1 ?_
                      refine o_iconst C X d2_217 218 rfl (-1 : Int32) (by decide) ?_
                      exact o_retI C X hret hlk d2_218 ⟨congrArg some (congrArg _ (by rw [FD]; simp only [if_neg q24, if_neg q25, if_pos q26, if_pos q27, if_neg q28, if_pos q29, if_neg q30, if_neg q31, if_neg q32, if_pos q33])), rfl, e0⟩ (Nat.le_refl _) (Nat.le_refl _)
                    · skip
                      refine o_icmpN C X d2_207 210 rfl (flt q33).1 ?_
                      refine o_iload C X d2_210 212 rfl rfl ?_
                      refine o_iload C X d2_212 214 rfl rfl ?_
                      by_cases q34 : (191 : Int32) < ((f (i + 2)) &&& (255 : Int32))
                      · skip
                        refine o_icmpN C X d2_214 217 rfl (tlt q34).2.2.2 ?_
                        refine o_iconst C X d2_217 218 rfl (-1 : Int32) (by decide) ?_
                        exact o_retI C X hret hlk d2_218 ⟨congrArg some (congrArg _ (by rw [FD]; simp only [if_neg q24, if_neg q25, if_pos q26, if_pos q27, if_neg q28, if_pos q29, if_neg q30, if_neg q31, if_neg q32, if_neg q33, if_pos q34])), rfl, e0⟩ (Nat.le_refl _) (Nat.le_refl _)
                      · skip
                        refine o_icmpY C X d2_214 219 (by decide) (by decide) (flt q34).2.2.2 ?_
                        refine o_sipush C X d2_219 222 rfl (128 : Int32) (by decide) ?_
                        refine o_istore C X d2_222 224 rfl #[.val (.ref a), .val (.int p0), .val (.int ((f i) &&& (255 : Int32))), .val (.int (4 : Int32)), .val (.int (((((f i) &&& (255 : Int32)) &&& (7 : Int32)) <<< ((6 : Int32) &&& 31)) ||| (((f (i + 1)) &&& (255 : Int32)) &&& (63 : Int32)))), .val (.int (128 : Int32)), .val (.int (191 : Int32)), .val (.int (2 : Int32)), .val (.int ((f (i + 2)) &&& (255 : Int32)))] rfl ?_
                        refine o_sipush C X d2_224 227 rfl (191 : Int32) (by decide) ?_
                        refine o_istore C X d2_227 229 rfl #[.val (.ref a), .val (.int p0), .val (.int ((f i) &&& (255 : Int32))), .val (.int (4 : Int32)), .val (.int (((((f i) &&& (255 : Int32)) &&& (7 : Int32)) <<< ((6 : Int32) &&& 31)) ||| (((f (i + 1)) &&& (255 : Int32)) &&& (63 : Int32)))), .val (.int (128 : Int32)), .val (.int (191 : Int32)), .val (.int (2 : Int32)), .val (.int ((f (i + 2)) &&& (255 : Int32)))] rfl ?_
                        refine o_iload C X d2_229 231 rfl rfl ?_
                        refine o_bipush C X d2_231 233 rfl (6 : Int32) (by decide) ?_
                        refine o_ishl C X d2_233 234 rfl ?_
                        refine o_iload C X d2_234 236 rfl rfl ?_
                        refine o_bipush C X d2_236 238 rfl (63 : Int32) (by decide) ?_
                        refine o_iand C X d2_238 239 rfl ?_
                        refine o_ior C X d2_239 240 rfl ?_
                        refine o_istore C X d2_240 242 rfl #[.val (.ref a), .val (.int p0), .val (.int ((f i) &&& (255 : Int32))), .val (.int (4 : Int32)), .val (.int (((((((f i) &&& (255 : Int32)) &&& (7 : Int32)) <<< ((6 : Int32) &&& 31)) ||| (((f (i + 1)) &&& (255 : Int32)) &&& (63 : Int32))) <<< ((6 : Int32) &&& 31)) ||| (((f (i + 2)) &&& (255 : Int32)) &&& (63 : Int32)))), .val (.int (128 : Int32)), .val (.int (191 : Int32)), .val (.int (2 : Int32)), .val (.int ((f (i + 2)) &&& (255 : Int32)))] rfl ?_
                        refine o_iinc C X (3 : Int32) d2_242 245 rfl #[.val (.ref a), .val (.int p0), .val (.int ((f i) &&& (255 : Int32))), .val (.int (4 : Int32)), .val (.int (((((((f i) &&& (255 : Int32)) &&& (7 : Int32)) <<< ((6 : Int32) &&& 31)) ||| (((f (i + 1)) &&& (255 : Int32)) &&& (63 : Int32))) <<< ((6 : Int32) &&& 31)) ||| (((f (i + 2)) &&& (255 : Int32)) &&& (63 : Int32)))), .val (.int (128 : Int32)), .val (.int (191 : Int32)), .val (.int (3 : Int32)), .val (.int ((f (i + 2)) &&& (255 : Int32)))] rfl (by decide) rfl ?_
                        refine o_goto C X d2_245 185 (by decide) (by decide) ?_
                        refine o_iload C X d2_185 187 rfl rfl ?_
                        refine o_iloadN C X d2_187 188 rfl rfl ?_
                        refine o_icmpN C X d2_188 191 rfl (tlt (by decide : (3 : Int32) < (4 : Int32))).2.1 ?_
                        refine o_aloadN C X d2_191 192 rfl rfl rfl ?_
                        refine o_iloadN C X d2_192 193 rfl rfl ?_
                        refine o_iload C X d2_193 195 rfl rfl ?_
                        refine o_iadd C X d2_195 196 rfl ?_
                        refine o_baload C X hZ e0 A (i + 3) (own_add hp hi (n := (3 : Int32)) rfl (by decide)) (Nat.lt_of_lt_of_le (by omega) (own_in hp hi (n := (4 : Int32)) (k := 4) rfl (by decide) q30)) d2_196 197 rfl ?_
                        refine o_sipush C X d2_197 200 rfl (255 : Int32) (by decide) ?_
                        refine o_iand C X d2_200 201 rfl ?_
                        refine o_istore C X d2_201 203 rfl #[.val (.ref a), .val (.int p0), .val (.int ((f i) &&& (255 : Int32))), .val (.int (4 : Int32)), .val (.int (((((((f i) &&& (255 : Int32)) &&& (7 : Int32)) <<< ((6 : Int32) &&& 31)) ||| (((f (i + 1)) &&& (255 : Int32)) &&& (63 : Int32))) <<< ((6 : Int32) &&& 31)) ||| (((f (i + 2)) &&& (255 : Int32)) &&& (63 : Int32)))), .val (.int (128 : Int32)), .val (.int (191 : Int32)), .val (.int (3 : Int32)), .val (.int ((f (i + 3)) &&& (255 : Int32)))] rfl ?_
                        refine o_iload C X d2_203 205 rfl rfl ?_
                        refine o_iload C X d2_205 207 rfl rfl ?_
                        by_cases q35 : ((f (i + 3)) &&& (255 : Int32)) < (128 : Int32)
                        · skip
                          refine o_icmpY C X d2_207 217 (by decide) (by decide) (tlt q35).1 ?_
                          refine o_iconst C X d2_217 218 rfl (-1 : Int32) (by decide) ?_
                          exact o_retI C X hret hlk d2_218 ⟨congrArg some (congrArg _ (by rw [FD]; simp only [if_neg q24, if_neg q25, if_pos q26, if_pos q27, if_neg q28, if_pos q29, if_neg q30, if_neg q31, if_neg q32, if_neg q33, if_neg q34, if_pos q35])), rfl, e0⟩ (Nat.le_refl _) (Nat.le_refl _)
                        · skip
                          refine o_icmpN C X d2_207 210 rfl (flt q35).1 ?_
                          refine o_iload C X d2_210 212 rfl rfl ?_
                          refine o_iload C X d2_212 214 rfl rfl ?_
                          by_cases q36 : (191 : Int32) < ((f (i + 3)) &&& (255 : Int32))
                          · skip
                            refine o_icmpN C X d2_214 217 rfl (tlt q36).2.2.2 ?_
                            refine o_iconst C X d2_217 218 rfl (-1 : Int32) (by decide) ?_
                            exact o_retI C X hret hlk d2_218 ⟨congrArg some (congrArg _ (by rw [FD]; simp only [if_neg q24, if_neg q25, if_pos q26, if_pos q27, if_neg q28, if_pos q29, if_neg q30, if_neg q31, if_neg q32, if_neg q33, if_neg q34, if_neg q35, if_pos q36])), rfl, e0⟩ (Nat.le_refl _) (Nat.le_refl _)
                          · skip
                            refine o_icmpY C X d2_214 219 (by decide) (by decide) (flt q36).2.2.2 ?_
                            refine o_sipush C X d2_219 222 rfl (128 : Int32) (by decide) ?_
                            refine o_istore C X d2_222 224 rfl #[.val (.ref a), .val (.int p0), .val (.int ((f i) &&& (255 : Int32))), .val (.int (4 : Int32)), .val (.int (((((((f i) &&& (255 : Int32)) &&& (7 : Int32)) <<< ((6 : Int32) &&& 31)) ||| (((f (i + 1)) &&& (255 : Int32)) &&& (63 : Int32))) <<< ((6 : Int32) &&& 31)) ||| (((f (i + 2)) &&& (255 : Int32)) &&& (63 : Int32)))), .val (.int (128 : Int32)), .val (.int (191 : Int32)), .val (.int (3 : Int32)), .val (.int ((f (i + 3)) &&& (255 : Int32)))] rfl ?_
                            refine o_sipush C X d2_224 227 rfl (191 : Int32) (by decide) ?_
                            refine o_istore C X d2_227 229 rfl #[.val (.ref a), .val (.int p0), .val (.int ((f i) &&& (255 : Int32))), .val (.int (4 : Int32)), .val (.int (((((((f i) &&& (255 : Int32)) &&& (7 : Int32)) <<< ((6 : Int32) &&& 31)) ||| (((f (i + 1)) &&& (255 : Int32)) &&& (63 : Int32))) <<< ((6 : Int32) &&& 31)) ||| (((f (i + 2)) &&& (255 : Int32)) &&& (63 : Int32)))), .val (.int (128 : Int32)), .val (.int (191 : Int32)), .val (.int (3 : Int32)), .val (.int ((f (i + 3)) &&& (255 : Int32)))] rfl ?_
                            refine o_iload C X d2_229 231 rfl rfl ?_
                            refine o_bipush C X d2_231 233 rfl (6 : Int32) (by decide) ?_
                            refine o_ishl C X d2_233 234 rfl ?_
                            refine o_iload C X d2_234 236 rfl rfl ?_
                            refine o_bipush C X d2_236 238 rfl (63 : Int32) (by decide) ?_
                            refine o_iand C X d2_238 239 rfl ?_
                            refine o_ior C X d2_239 240 rfl ?_
                            refine o_istore C X d2_240 242 rfl #[.val (.ref a), .val (.int p0), .val (.int ((f i) &&& (255 : Int32))), .val (.int (4 : Int32)), .val (.int (((((((((f i) &&& (255 : Int32)) &&& (7 : Int32)) <<< ((6 : Int32) &&& 31)) ||| (((f (i + 1)) &&& (255 : Int32)) &&& (63 : Int32))) <<< ((6 : Int32) &&& 31)) ||| (((f (i + 2)) &&& (255 : Int32)) &&& (63 : Int32))) <<< ((6 : Int32) &&& 31)) ||| (((f (i + 3)) &&& (255 : Int32)) &&& (63 : Int32)))), .val (.int (128 : Int32)), .val (.int (191 : Int32)), .val (.int (3 : Int32)), .val (.int ((f (i + 3)) &&& (255 : Int32)))] rfl ?_
                            refine o_iinc C X (4 : Int32) d2_242 245 rfl #[.val (.ref a), .val (.int p0), .val (.int ((f i) &&& (255 : Int32))), .val (.int (4 : Int32)), .val (.int (((((((((f i) &&& (255 : Int32)) &&& (7 : Int32)) <<< ((6 : Int32) &&& 31)) ||| (((f (i + 1)) &&& (255 : Int32)) &&& (63 : Int32))) <<< ((6 : Int32) &&& 31)) ||| (((f (i + 2)) &&& (255 : Int32)) &&& (63 : Int32))) <<< ((6 : Int32) &&& 31)) ||| (((f (i + 3)) &&& (255 : Int32)) &&& (63 : Int32)))), .val (.int (128 : Int32)), .val (.int (191 : Int32)), .val (.int (4 : Int32)), .val (.int ((f (i + 3)) &&& (255 : Int32)))] rfl (by decide) rfl ?_
                            refine o_goto C X d2_245 185 (by decide) (by decide) ?_
                            refine o_iload C X d2_185 187 rfl rfl ?_
                            refine o_iloadN C X d2_187 188 rfl rfl ?_
                            refine o_icmpY C X d2_188 248 (by decide) (by decide) (flt (by decide : ¬ ((4 : Int32) < (4 : Int32)))).2.1 ?_
                            refine o_iload C X d2_248 250 rfl rfl ?_
                            exact o_retI C X hret hlk d2_250 ⟨congrArg some (congrArg _ (by rw [FD]; simp only [if_neg q24, if_neg q25, if_pos q26, if_pos q27, if_neg q28, if_pos q29, if_neg q30, if_neg q31, if_neg q32, if_neg q33, if_neg q34, if_neg q35, if_neg q36])), rfl, e0⟩ (Nat.le_refl _) (Nat.le_refl _)
            · skip
              refine o_icmpY C X d2_137 146 (by decide) (by decide) (feq q29).2 ?_
              refine o_iload C X d2_146 148 rfl rfl ?_
              refine o_istore C X d2_148 150 rfl #[.val (.ref a), .val (.int p0), .val (.int ((f i) &&& (255 : Int32))), .val (.int (4 : Int32)), .val (.int (((f i) &&& (255 : Int32)) &&& (7 : Int32))), .val (.int (128 : Int32)), .val (.int (191 : Int32)), .unset, .unset] rfl ?_
              refine o_iloadN C X d2_150 151 rfl rfl ?_
              refine o_sipush C X d2_151 154 rfl (244 : Int32) (by decide) ?_
              by_cases q37 : ((f i) &&& (255 : Int32)) = (244 : Int32)
              · skip
                refine o_icmpN C X d2_154 157 rfl (teq q37).2 ?_
                refine o_sipush C X d2_157 160 rfl (143 : Int32) (by decide) ?_
                refine o_goto C X d2_160 165 (by decide) (by decide) ?_
                refine o_istore C X d2_165 167 rfl #[.val (.ref a), .val (.int p0), .val (.int ((f i) &&& (255 : Int32))), .val (.int (4 : Int32)), .val (.int (((f i) &&& (255 : Int32)) &&& (7 : Int32))), .val (.int (128 : Int32)), .val (.int (143 : Int32)), .unset, .unset] rfl ?_
                refine o_goto C X d2_167 172 (by decide) (by decide) ?_
                refine o_iloadN C X d2_172 173 rfl rfl ?_
                refine o_iloadN C X d2_173 174 rfl rfl ?_
                refine o_iadd C X d2_174 175 rfl ?_
                refine o_aloadN C X d2_175 176 rfl rfl rfl ?_
                refine o_arraylength C X hZ e0 A (5 : Int32) rfl d2_176 177 rfl ?_
                by_cases q38 : (5 : Int32) < (p0 + (4 : Int32))
                · skip
                  refine o_icmpN C X d2_177 180 rfl (tlt q38).2.2.2 ?_
                  refine o_iconst C X d2_180 181 rfl (-1 : Int32) (by decide) ?_
                  exact o_retI C X hret hlk d2_181 ⟨congrArg some (congrArg _ (by rw [FD]; simp only [if_neg q24, if_neg q25, if_pos q26, if_pos q27, if_neg q28, if_neg q29, if_pos q37, if_pos q38])), rfl, e0⟩ (Nat.le_refl _) (Nat.le_refl _)
                · skip
                  refine o_icmpY C X d2_177 182 (by decide) (by decide) (flt q38).2.2.2 ?_
                  refine o_iconst C X d2_182 183 rfl (1 : Int32) (by decide) ?_
                  refine o_istore C X d2_183 185 rfl #[.val (.ref a), .val (.int p0), .val (.int ((f i) &&& (255 : Int32))), .val (.int (4 : Int32)), .val (.int (((f i) &&& (255 : Int32)) &&& (7 : Int32))), .val (.int (128 : Int32)), .val (.int (143 : Int32)), .val (.int (1 : Int32)), .unset] rfl ?_
                  refine o_iload C X d2_185 187 rfl rfl ?_
                  refine o_iloadN C X d2_187 188 rfl rfl ?_
                  refine o_icmpN C X d2_188 191 rfl (tlt (by decide : (1 : Int32) < (4 : Int32))).2.1 ?_
                  refine o_aloadN C X d2_191 192 rfl rfl rfl ?_
                  refine o_iloadN C X d2_192 193 rfl rfl ?_
                  refine o_iload C X d2_193 195 rfl rfl ?_
                  refine o_iadd C X d2_195 196 rfl ?_
                  refine o_baload C X hZ e0 A (i + 1) (own_add hp hi (n := (1 : Int32)) rfl (by decide)) (Nat.lt_of_lt_of_le (by omega) (own_in hp hi (n := (4 : Int32)) (k := 4) rfl (by decide) q38)) d2_196 197 rfl ?_
                  refine o_sipush C X d2_197 200 rfl (255 : Int32) (by decide) ?_
                  refine o_iand C X d2_200 201 rfl ?_
                  refine o_istore C X d2_201 203 rfl #[.val (.ref a), .val (.int p0), .val (.int ((f i) &&& (255 : Int32))), .val (.int (4 : Int32)), .val (.int (((f i) &&& (255 : Int32)) &&& (7 : Int32))), .val (.int (128 : Int32)), .val (.int (143 : Int32)), .val (.int (1 : Int32)), .val (.int ((f (i + 1)) &&& (255 : Int32)))] rfl ?_
                  refine o_iload C X d2_203 205 rfl rfl ?_
                  refine o_iload C X d2_205 207 rfl rfl ?_
                  by_cases q39 : ((f (i + 1)) &&& (255 : Int32)) < (128 : Int32)
                  · skip
                    refine o_icmpY C X d2_207 217 (by decide) (by decide) (tlt q39).1 ?_
                    refine o_iconst C X d2_217 218 rfl (-1 : Int32) (by decide) ?_
                    exact o_retI C X hret hlk d2_218 ⟨congrArg some (congrArg _ (by rw [FD]; simp only [if_neg q24, if_neg q25, if_pos q26, if_pos q27, if_neg q28, if_neg q29, if_pos q37, if_neg q38, if_pos q39])), rfl, e0⟩ (Nat.le_refl _) (Nat.le_refl _)
                  · skip
                    refine o_icmpN C X d2_207 210 rfl (flt q39).1 ?_
                    refine o_iload C X d2_210 212 rfl rfl ?_
                    refine o_iload C X d2_212 214 rfl rfl ?_
                    by_cases q40 : (143 : Int32) < ((f (i + 1)) &&& (255 : Int32))
                    · skip
                      refine o_icmpN C X d2_214 217 rfl (tlt q40).2.2.2 ?_
                      refine o_iconst C X d2_217 218 rfl (-1 : Int32) (by decide) ?_
                      exact o_retI C X hret hlk d2_218 ⟨congrArg some (congrArg _ (by rw [FD]; simp only [if_neg q24, if_neg q25, if_pos q26, if_pos q27, if_neg q28, if_neg q29, if_pos q37, if_neg q38, if_neg q39, if_pos q40])), rfl, e0⟩ (Nat.le_refl _) (Nat.le_refl _)
                    · skip
                      refine o_icmpY C X d2_214 219 (by decide) (by decide) (flt q40).2.2.2 ?_
                      refine o_sipush C X d2_219 222 rfl (128 : Int32) (by decide) ?_
                      refine o_istore C X d2_222 224 rfl #[.val (.ref a), .val (.int p0), .val (.int ((f i) &&& (255 : Int32))), .val (.int (4 : Int32)), .val (.int (((f i) &&& (255 : Int32)) &&& (7 : Int32))), .val (.int (128 : Int32)), .val (.int (143 : Int32)), .val (.int (1 : Int32)), .val (.int ((f (i + 1)) &&& (255 : Int32)))] rfl ?_
                      refine o_sipush C X d2_224 227 rfl (191 : Int32) (by decide) ?_
                      refine o_istore C X d2_227 229 rfl #[.val (.ref a), .val (.int p0), .val (.int ((f i) &&& (255 : Int32))), .val (.int (4 : Int32)), .val (.int (((f i) &&& (255 : Int32)) &&& (7 : Int32))), .val (.int (128 : Int32)), .val (.int (191 : Int32)), .val (.int (1 : Int32)), .val (.int ((f (i + 1)) &&& (255 : Int32)))] rfl ?_
                      refine o_iload C X d2_229 231 rfl rfl ?_
                      refine o_bipush C X d2_231 233 rfl (6 : Int32) (by decide) ?_
                      refine o_ishl C X d2_233 234 rfl ?_
                      refine o_iload C X d2_234 236 rfl rfl ?_
                      refine o_bipush C X d2_236 238 rfl (63 : Int32) (by decide) ?_
                      refine o_iand C X d2_238 239 rfl ?_
                      refine o_ior C X d2_239 240 rfl ?_
                      refine o_istore C X d2_240 242 rfl #[.val (.ref a), .val (.int p0), .val (.int ((f i) &&& (255 : Int32))), .val (.int (4 : Int32)), .val (.int (((((f i) &&& (255 : Int32)) &&& (7 : Int32)) <<< ((6 : Int32) &&& 31)) ||| (((f (i + 1)) &&& (255 : Int32)) &&& (63 : Int32)))), .val (.int (128 : Int32)), .val (.int (191 : Int32)), .val (.int (1 : Int32)), .val (.int ((f (i + 1)) &&& (255 : Int32)))] rfl ?_
                      refine o_iinc C X (2 : Int32) d2_242 245 rfl #[.val (.ref a), .val (.int p0), .val (.int ((f i) &&& (255 : Int32))), .val (.int (4 : Int32)), .val (.int (((((f i) &&& (255 : Int32)) &&& (7 : Int32)) <<< ((6 : Int32) &&& 31)) ||| (((f (i + 1)) &&& (255 : Int32)) &&& (63 : Int32)))), .val (.int (128 : Int32)), .val (.int (191 : Int32)), .val (.int (2 : Int32)), .val (.int ((f (i + 1)) &&& (255 : Int32)))] rfl (by decide) rfl ?_
                      refine o_goto C X d2_245 185 (by decide) (by decide) ?_
                      refine o_iload C X d2_185 187 rfl rfl ?_
                      refine o_iloadN C X d2_187 188 rfl rfl ?_
                      refine o_icmpN C X d2_188 191 rfl (tlt (by decide : (2 : Int32) < (4 : Int32))).2.1 ?_
                      refine o_aloadN C X d2_191 192 rfl rfl rfl ?_
                      refine o_iloadN C X d2_192 193 rfl rfl ?_
                      refine o_iload C X d2_193 195 rfl rfl ?_
                      refine o_iadd C X d2_195 196 rfl ?_
                      refine o_baload C X hZ e0 A (i + 2) (own_add hp hi (n := (2 : Int32)) rfl (by decide)) (Nat.lt_of_lt_of_le (by omega) (own_in hp hi (n := (4 : Int32)) (k := 4) rfl (by decide) q38)) d2_196 197 rfl ?_
                      refine o_sipush C X d2_197 200 rfl (255 : Int32) (by decide) ?_
                      refine o_iand C X d2_200 201 rfl ?_
                      refine o_istore C X d2_201 203 rfl #[.val (.ref a), .val (.int p0), .val (.int ((f i) &&& (255 : Int32))), .val (.int (4 : Int32)), .val (.int (((((f i) &&& (255 : Int32)) &&& (7 : Int32)) <<< ((6 : Int32) &&& 31)) ||| (((f (i + 1)) &&& (255 : Int32)) &&& (63 : Int32)))), .val (.int (128 : Int32)), .val (.int (191 : Int32)), .val (.int (2 : Int32)), .val (.int ((f (i + 2)) &&& (255 : Int32)))] rfl ?_
                      refine o_iload C X d2_203 205 rfl rfl ?_
                      refine o_iload C X d2_205 207 rfl rfl ?_
                      by_cases q41 : ((f (i + 2)) &&& (255 : Int32)) < (128 : Int32)
                      · skip
                        refine o_icmpY C X d2_207 217 (by decide) (by decide) (tlt q41).1 ?_
                        refine o_iconst C X d2_217 218 rfl (-1 : Int32) (by decide) ?_
                        exact o_retI C X hret hlk d2_218 ⟨congrArg some (congrArg _ (by rw [FD]; simp only [if_neg q24, if_neg q25, if_pos q26, if_pos q27, if_neg q28, if_neg q29, if_pos q37, if_neg q38, if_neg q39, if_neg q40, if_pos q41])), rfl, e0⟩ (Nat.le_refl _) (Nat.le_refl _)
                      · skip
                        refine o_icmpN C X d2_207 210 rfl (flt q41).1 ?_
                        refine o_iload C X d2_210 212 rfl rfl ?_
                        refine o_iload C X d2_212 214 rfl rfl ?_
                        by_cases q42 : (191 : Int32) < ((f (i + 2)) &&& (255 : Int32))
                        · skip
                          refine o_icmpN C X d2_214 217 rfl (tlt q42).2.2.2 ?_
                          refine o_iconst C X d2_217 218 rfl (-1 : Int32) (by decide) ?_
                          exact o_retI C X hret hlk d2_218 ⟨congrArg some (congrArg _ (by rw [FD]; simp only [if_neg q24, if_neg q25, if_pos q26, if_pos q27, if_neg q28, if_neg q29, if_pos q37, if_neg q38, if_neg q39, if_neg q40, if_neg q41, if_pos q42])), rfl, e0⟩ (Nat.le_refl _) (Nat.le_refl _)
                        · skip
                          refine o_icmpY C X d2_214 219 (by decide) (by decide) (flt q42).2.2.2 ?_
                          refine o_sipush C X d2_219 222 rfl (128 : Int32) (by decide) ?_
                          refine o_istore C X d2_222 224 rfl #[.val (.ref a), .val (.int p0), .val (.int ((f i) &&& (255 : Int32))), .val (.int (4 : Int32)), .val (.int (((((f i) &&& (255 : Int32)) &&& (7 : Int32)) <<< ((6 : Int32) &&& 31)) ||| (((f (i + 1)) &&& (255 : Int32)) &&& (63 : Int32)))), .val (.int (128 : Int32)), .val (.int (191 : Int32)), .val (.int (2 : Int32)), .val (.int ((f (i + 2)) &&& (255 : Int32)))] rfl ?_
                          refine o_sipush C X d2_224 227 rfl (191 : Int32) (by decide) ?_
                          refine o_istore C X d2_227 229 rfl #[.val (.ref a), .val (.int p0), .val (.int ((f i) &&& (255 : Int32))), .val (.int (4 : Int32)), .val (.int (((((f i) &&& (255 : Int32)) &&& (7 : Int32)) <<< ((6 : Int32) &&& 31)) ||| (((f (i + 1)) &&& (255 : Int32)) &&& (63 : Int32)))), .val (.int (128 : Int32)), .val (.int (191 : Int32)), .val (.int (2 : Int32)), .val (.int ((f (i + 2)) &&& (255 : Int32)))] rfl ?_
                          refine o_iload C X d2_229 231 rfl rfl ?_
                          refine o_bipush C X d2_231 233 rfl (6 : Int32) (by decide) ?_
                          refine o_ishl C X d2_233 234 rfl ?_
                          refine o_iload C X d2_234 236 rfl rfl ?_
                          refine o_bipush C X d2_236 238 rfl (63 : Int32) (by decide) ?_
                          refine o_iand C X d2_238 239 rfl ?_
                          refine o_ior C X d2_239 240 rfl ?_
                          refine o_istore C X d2_240 242 rfl #[.val (.ref a), .val (.int p0), .val (.int ((f i) &&& (255 : Int32))), .val (.int (4 : Int32)), .val (.int (((((((f i) &&& (255 : Int32)) &&& (7 : Int32)) <<< ((6 : Int32) &&& 31)) ||| (((f (i + 1)) &&& (255 : Int32)) &&& (63 : Int32))) <<< ((6 : Int32) &&& 31)) ||| (((f (i + 2)) &&& (255 : Int32)) &&& (63 : Int32)))), .val (.int (128 : Int32)), .val (.int (191 : Int32)), .val (.int (2 : Int32)), .val (.int ((f (i + 2)) &&& (255 : Int32)))] rfl ?_
                          refine o_iinc C X (3 : Int32) d2_242 245 rfl #[.val (.ref a), .val (.int p0), .val (.int ((f i) &&& (255 : Int32))), .val (.int (4 : Int32)), .val (.int (((((((f i) &&& (255 : Int32)) &&& (7 : Int32)) <<< ((6 : Int32) &&& 31)) ||| (((f (i + 1)) &&& (255 : Int32)) &&& (63 : Int32))) <<< ((6 : Int32) &&& 31)) ||| (((f (i + 2)) &&& (255 : Int32)) &&& (63 : Int32)))), .val (.int (128 : Int32)), .val (.int (191 : Int32)), .val (.int (3 : Int32)), .val (.int ((f (i + 2)) &&& (255 : Int32)))] rfl (by decide) rfl ?_
                          refine o_goto C X d2_245 185 (by decide) (by decide) ?_
                          refine o_iload C X d2_185 187 rfl rfl ?_
                          refine o_iloadN C X d2_187 188 rfl rfl ?_
                          refine o_icmpN C X d2_188 191 rfl (tlt (by decide : (3 : Int32) < (4 : Int32))).2.1 ?_
                          refine o_aloadN C X d2_191 192 rfl rfl rfl ?_
                          refine o_iloadN C X d2_192 193 rfl rfl ?_
                          refine o_iload C X d2_193 195 rfl rfl ?_
                          refine o_iadd C X d2_195 196 rfl ?_
                          refine o_baload C X hZ e0 A (i + 3) (own_add hp hi (n := (3 : Int32)) rfl (by decide)) (Nat.lt_of_lt_of_le (by omega) (own_in hp hi (n := (4 : Int32)) (k := 4) rfl (by decide) q38)) d2_196 197 rfl ?_
                          refine o_sipush C X d2_197 200 rfl (255 : Int32) (by decide) ?_
                          refine o_iand C X d2_200 201 rfl ?_
                          refine o_istore C X d2_201 203 rfl #[.val (.ref a), .val (.int p0), .val (.int ((f i) &&& (255 : Int32))), .val (.int (4 : Int32)), .val (.int (((((((f i) &&& (255 : Int32)) &&& (7 : Int32)) <<< ((6 : Int32) &&& 31)) ||| (((f (i + 1)) &&& (255 : Int32)) &&& (63 : Int32))) <<< ((6 : Int32) &&& 31)) ||| (((f (i + 2)) &&& (255 : Int32)) &&& (63 : Int32)))), .val (.int (128 : Int32)), .val (.int (191 : Int32)), .val (.int (3 : Int32)), .val (.int ((f (i + 3)) &&& (255 : Int32)))] rfl ?_
                          refine o_iload C X d2_203 205 rfl rfl ?_
                          refine o_iload C X d2_205 207 rfl rfl ?_
                          by_cases q43 : ((f (i + 3)) &&& (255 : Int32)) < (128 : Int32)
                          · skip
                            refine o_icmpY C X d2_207 217 (by decide) (by decide) (tlt q43).1 ?_
                            refine o_iconst C X d2_217 218 rfl (-1 : Int32) (by decide) ?_
                            exact o_retI C X hret hlk d2_218 ⟨congrArg some (congrArg _ (by rw [FD]; simp only [if_neg q24, if_neg q25, if_pos q26, if_pos q27, if_neg q28, if_neg q29, if_pos q37, if_neg q38, if_neg q39, if_neg q40, if_neg q41, if_neg q42, if_pos q43])), rfl, e0⟩ (Nat.le_refl _) (Nat.le_refl _)
                          · skip
                            refine o_icmpN C X d2_207 210 rfl (flt q43).1 ?_
                            refine o_iload C X d2_210 212 rfl rfl ?_
                            refine o_iload C X d2_212 214 rfl rfl ?_
                            by_cases q44 : (191 : Int32) < ((f (i + 3)) &&& (255 : Int32))
                            · skip
                              refine o_icmpN C X d2_214 217 rfl (tlt q44).2.2.2 ?_
                              refine o_iconst C X d2_217 218 rfl (-1 : Int32) (by decide) ?_
                              exact o_retI C X hret hlk d2_218 ⟨congrArg some (congrArg _ (by rw [FD]; simp only [if_neg q24, if_neg q25, if_pos q26, if_pos q27, if_neg q28, if_neg q29, if_pos q37, if_neg q38, if_neg q39, if_neg q40, if_neg q41, if_neg q42, if_neg q43, if_pos q44])), rfl, e0⟩ (Nat.le_refl _) (Nat.le_refl _)
                            · skip
                              refine o_icmpY C X d2_214 219 (by decide) (by decide) (flt q44).2.2.2 ?_
                              refine o_sipush C X d2_219 222 rfl (128 : Int32) (by decide) ?_
                              refine o_istore C X d2_222 224 rfl #[.val (.ref a), .val (.int p0), .val (.int ((f i) &&& (255 : Int32))), .val (.int (4 : Int32)), .val (.int (((((((f i) &&& (255 : Int32)) &&& (7 : Int32)) <<< ((6 : Int32) &&& 31)) ||| (((f (i + 1)) &&& (255 : Int32)) &&& (63 : Int32))) <<< ((6 : Int32) &&& 31)) ||| (((f (i + 2)) &&& (255 : Int32)) &&& (63 : Int32)))), .val (.int (128 : Int32)), .val (.int (191 : Int32)), .val (.int (3 : Int32)), .val (.int ((f (i + 3)) &&& (255 : Int32)))] rfl ?_
                              refine o_sipush C X d2_224 227 rfl (191 : Int32) (by decide) ?_
                              refine o_istore C X d2_227 229 rfl #[.val (.ref a), .val (.int p0), .val (.int ((f i) &&& (255 : Int32))), .val (.int (4 : Int32)), .val (.int (((((((f i) &&& (255 : Int32)) &&& (7 : Int32)) <<< ((6 : Int32) &&& 31)) ||| (((f (i + 1)) &&& (255 : Int32)) &&& (63 : Int32))) <<< ((6 : Int32) &&& 31)) ||| (((f (i + 2)) &&& (255 : Int32)) &&& (63 : Int32)))), .val (.int (128 : Int32)), .val (.int (191 : Int32)), .val (.int (3 : Int32)), .val (.int ((f (i + 3)) &&& (255 : Int32)))] rfl ?_
                              refine o_iload C X d2_229 231 rfl rfl ?_
                              refine o_bipush C X d2_231 233 rfl (6 : Int32) (by decide) ?_
                              refine o_ishl C X d2_233 234 rfl ?_
                              refine o_iload C X d2_234 236 rfl rfl ?_
                              refine o_bipush C X d2_236 238 rfl (63 : Int32) (by decide) ?_
                              refine o_iand C X d2_238 239 rfl ?_
                              refine o_ior C X d2_239 240 rfl ?_
                              refine o_istore C X d2_240 242 rfl #[.val (.ref a), .val (.int p0), .val (.int ((f i) &&& (255 : Int32))), .val (.int (4 : Int32)), .val (.int (((((((((f i) &&& (255 : Int32)) &&& (7 : Int32)) <<< ((6 : Int32) &&& 31)) ||| (((f (i + 1)) &&& (255 : Int32)) &&& (63 : Int32))) <<< ((6 : Int32) &&& 31)) ||| (((f (i + 2)) &&& (255 : Int32)) &&& (63 : Int32))) <<< ((6 : Int32) &&& 31)) ||| (((f (i + 3)) &&& (255 : Int32)) &&& (63 : Int32)))), .val (.int (128 : Int32)), .val (.int (191 : Int32)), .val (.int (3 : Int32)), .val (.int ((f (i + 3)) &&& (255 : Int32)))] rfl ?_
                              refine o_iinc C X (4 : Int32) d2_242 245 rfl #[.val (.ref a), .val (.int p0), .val (.int ((f i) &&& (255 : Int32))), .val (.int (4 : Int32)), .val (.int (((((((((f i) &&& (255 : Int32)) &&& (7 : Int32)) <<< ((6 : Int32) &&& 31)) ||| (((f (i + 1)) &&& (255 : Int32)) &&& (63 : Int32))) <<< ((6 : Int32) &&& 31)) ||| (((f (i + 2)) &&& (255 : Int32)) &&& (63 : Int32))) <<< ((6 : Int32) &&& 31)) ||| (((f (i + 3)) &&& (255 : Int32)) &&& (63 : Int32)))), .val (.int (128 : Int32)), .val (.int (191 : Int32)), .val (.int (4 : Int32)), .val (.int ((f (i + 3)) &&& (255 : Int32)))] rfl (by decide) rfl ?_
                              refine o_goto C X d2_245 185 (by decide) (by decide) ?_
                              refine o_iload C X d2_185 187 rfl rfl ?_
                              refine o_iloadN C X d2_187 188 rfl rfl ?_
                              refine o_icmpY C X d2_188 248 (by decide) (by decide) (flt (by decide : ¬ ((4 : Int32) < (4 : Int32)))).2.1 ?_
                              refine o_iload C X d2_248 250 rfl rfl ?_
                              exact o_retI C X hret hlk d2_250 ⟨congrArg some (congrArg _ (by rw [FD]; simp only [if_neg q24, if_neg q25, if_pos q26, if_pos q27, if_neg q28, if_neg q29, if_pos q37, if_neg q38, if_neg q39, if_neg q40, if_neg q41, if_neg q42, if_neg q43, if_neg q44])), rfl, e0⟩ (Nat.le_refl _) (Nat.le_refl _)
              · skip
                refine o_icmpY C X d2_154 163 (by decide) (by decide) (feq q37).2 ?_
                refine o_iload C X d2_163 165 rfl rfl ?_
                refine o_istore C X d2_165 167 rfl #[.val (.ref a), .val (.int p0), .val (.int ((f i) &&& (255 : Int32))), .val (.int (4 : Int32)), .val (.int (((f i) &&& (255 : Int32)) &&& (7 : Int32))), .val (.int (128 : Int32)), .val (.int (191 : Int32)), .unset, .unset] rfl ?_
                refine o_goto C X d2_167 172 (by decide) (by decide) ?_
                refine o_iloadN C X d2_172 173 rfl rfl ?_
                refine o_iloadN C X d2_173 174 rfl rfl ?_
                refine o_iadd C X d2_174 175 rfl ?_
                refine o_aloadN C X d2_175 176 rfl rfl rfl ?_
                refine o_arraylength C X hZ e0 A (5 : Int32) rfl d2_176 177 rfl ?_
                by_cases q45 : (5 : Int32) < (p0 + (4 : Int32))
                · skip
                  refine o_icmpN C X d2_177 180 rfl (tlt q45).2.2.2 ?_
                  refine o_iconst C X d2_180 181 rfl (-1 : Int32) (by decide) ?_
                  exact o_retI C X hret hlk d2_181 ⟨congrArg some (congrArg _ (by rw [FD]; simp only [if_neg q24, if_neg q25, if_pos q26, if_pos q27, if_neg q28, if_neg q29, if_neg q37, if_pos q45])), rfl, e0⟩ (Nat.le_refl _) (Nat.le_refl _)
                · skip
                  refine o_icmpY C X d2_177 182 (by decide) (by decide) (flt q45).2.2.2 ?_
                  refine o_iconst C X d2_182 183 rfl (1 : Int32) (by decide) ?_
                  refine o_istore C X d2_183 185 rfl #[.val (.ref a), .val (.int p0), .val (.int ((f i) &&& (255 : Int32))), .val (.int (4 : Int32)), .val (.int (((f i) &&& (255 : Int32)) &&& (7 : Int32))), .val (.int (128 : Int32)), .val (.int (191 : Int32)), .val (.int (1 : Int32)), .unset] rfl ?_
                  refine o_iload C X d2_185 187 rfl rfl ?_
                  refine o_iloadN C X d2_187 188 rfl rfl ?_
                  refine o_icmpN C X d2_188 191 rfl (tlt (by decide : (1 : Int32) < (4 : Int32))).2.1 ?_
                  refine o_aloadN C X d2_191 192 rfl rfl rfl ?_
                  refine o_iloadN C X d2_192 193 rfl rfl ?_
                  refine o_iload C X d2_193 195 rfl rfl ?_
                  refine o_iadd C X d2_195 196 rfl ?_
                  refine o_baload C X hZ e0 A (i + 1) (own_add hp hi (n := (1 : Int32)) rfl (by decide)) (Nat.lt_of_lt_of_le (by omega) (own_in hp hi (n := (4 : Int32)) (k := 4) rfl (by decide) q45)) d2_196 197 rfl ?_
                  refine o_sipush C X d2_197 200 rfl (255 : Int32) (by decide) ?_
                  refine o_iand C X d2_200 201 rfl ?_
                  refine o_istore C X d2_201 203 rfl #[.val (.ref a), .val (.int p0), .val (.int ((f i) &&& (255 : Int32))), .val (.int (4 : Int32)), .val (.int (((f i) &&& (255 : Int32)) &&& (7 : Int32))), .val (.int (128 : Int32)), .val (.int (191 : Int32)), .val (.int (1 : Int32)), .val (.int ((f (i + 1)) &&& (255 : Int32)))] rfl ?_
                  refine o_iload C X d2_203 205 rfl rfl ?_
                  refine o_iload C X d2_205 207 rfl rfl ?_
                  by_cases q46 : ((f (i + 1)) &&& (255 : Int32)) < (128 : Int32)
                  · skip
                    refine o_icmpY C X d2_207 217 (by decide) (by decide) (tlt q46).1 ?_
                    refine o_iconst C X d2_217 218 rfl (-1 : Int32) (by decide) ?_
                    exact o_retI C X hret hlk d2_218 ⟨congrArg some (congrArg _ (by rw [FD]; simp only [if_neg q24, if_neg q25, if_pos q26, if_pos q27, if_neg q28, if_neg q29, if_neg q37, if_neg q45, if_pos q46])), rfl, e0⟩ (Nat.le_refl _) (Nat.le_refl _)
                  · skip
                    refine o_icmpN C X d2_207 210 rfl (flt q46).1 ?_
                    refine o_iload C X d2_210 212 rfl rfl ?_
                    refine o_iload C X d2_212 214 rfl rfl ?_
                    by_cases q47 : (191 : Int32) < ((f (i + 1)) &&& (255 : Int32))
                    · skip
                      refine o_icmpN C X d2_214 217 rfl (tlt q47).2.2.2 ?_
                      refine o_iconst C X d2_217 218 rfl (-1 : Int32) (by decide) ?_
                      exact o_retI C X hret hlk d2_218 ⟨congrArg some (congrArg _ (by rw [FD]; simp only [if_neg q24, if_neg q25, if_pos q26, if_pos q27, if_neg q28, if_neg q29, if_neg q37, if_neg q45, if_neg q46, if_pos q47])), rfl, e0⟩ (Nat.le_refl _) (Nat.le_refl _)
                    · skip
                      refine o_icmpY C X d2_214 219 (by decide) (by decide) (flt q47).2.2.2 ?_
                      refine o_sipush C X d2_219 222 rfl (128 : Int32) (by decide) ?_
                      refine o_istore C X d2_222 224 rfl #[.val (.ref a), .val (.int p0), .val (.int ((f i) &&& (255 : Int32))), .val (.int (4 : Int32)), .val (.int (((f i) &&& (255 : Int32)) &&& (7 : Int32))), .val (.int (128 : Int32)), .val (.int (191 : Int32)), .val (.int (1 : Int32)), .val (.int ((f (i + 1)) &&& (255 : Int32)))] rfl ?_
                      refine o_sipush C X d2_224 227 rfl (191 : Int32) (by decide) ?_
                      refine o_istore C X d2_227 229 rfl #[.val (.ref a), .val (.int p0), .val (.int ((f i) &&& (255 : Int32))), .val (.int (4 : Int32)), .val (.int (((f i) &&& (255 : Int32)) &&& (7 : Int32))), .val (.int (128 : Int32)), .val (.int (191 : Int32)), .val (.int (1 : Int32)), .val (.int ((f (i + 1)) &&& (255 : Int32)))] rfl ?_
                      refine o_iload C X d2_229 231 rfl rfl ?_
                      refine o_bipush C X d2_231 233 rfl (6 : Int32) (by decide) ?_
                      refine o_ishl C X d2_233 234 rfl ?_
                      refine o_iload C X d2_234 236 rfl rfl ?_
                      refine o_bipush C X d2_236 238 rfl (63 : Int32) (by decide) ?_
                      refine o_iand C X d2_238 239 rfl ?_
                      refine o_ior C X d2_239 240 rfl ?_
                      refine o_istore C X d2_240 242 rfl #[.val (.ref a), .val (.int p0), .val (.int ((f i) &&& (255 : Int32))), .val (.int (4 : Int32)), .val (.int (((((f i) &&& (255 : Int32)) &&& (7 : Int32)) <<< ((6 : Int32) &&& 31)) ||| (((f (i + 1)) &&& (255 : Int32)) &&& (63 : Int32)))), .val (.int (128 : Int32)), .val (.int (191 : Int32)), .val (.int (1 : Int32)), .val (.int ((f (i + 1)) &&& (255 : Int32)))] rfl ?_
                      refine o_iinc C X (2 : Int32) d2_242 245 rfl #[.val (.ref a), .val (.int p0), .val (.int ((f i) &&& (255 : Int32))), .val (.int (4 : Int32)), .val (.int (((((f i) &&& (255 : Int32)) &&& (7 : Int32)) <<< ((6 : Int32) &&& 31)) ||| (((f (i + 1)) &&& (255 : Int32)) &&& (63 : Int32)))), .val (.int (128 : Int32)), .val (.int (191 : Int32)), .val (.int (2 : Int32)), .val (.int ((f (i + 1)) &&& (255 : Int32)))] rfl (by decide) rfl ?_
                      refine o_goto C X d2_245 185 (by decide) (by decide) ?_
                      refine o_iload C X d2_185 187 rfl rfl ?_
                      refine o_iloadN C X d2_187 188 rfl rfl ?_
                      refine o_icmpN C X d2_188 191 rfl (tlt (by decide : (2 : Int32) < (4 : Int32))).2.1 ?_
                      refine o_aloadN C X d2_191 192 rfl rfl rfl ?_
                      refine o_iloadN C X d2_192 193 rfl rfl ?_
                      refine o_iload C X d2_193 195 rfl rfl ?_
                      refine o_iadd C X d2_195 196 rfl ?_
                      refine o_baload C X hZ e0 A (i + 2) (own_add hp hi (n := (2 : Int32)) rfl (by decide)) (Nat.lt_of_lt_of_le (by omega) (own_in hp hi (n := (4 : Int32)) (k := 4) rfl (by decide) q45)) d2_196 197 rfl ?_
                      refine o_sipush C X d2_197 200 rfl (255 : Int32) (by decide) ?_
                      refine o_iand C X d2_200 201 rfl ?_
                      refine o_istore C X d2_201 203 rfl #[.val (.ref a), .val (.int p0), .val (.int ((f i) &&& (255 : Int32))), .val (.int (4 : Int32)), .val (.int (((((f i) &&& (255 : Int32)) &&& (7 : Int32)) <<< ((6 : Int32) &&& 31)) ||| (((f (i + 1)) &&& (255 : Int32)) &&& (63 : Int32)))), .val (.int (128 : Int32)), .val (.int (191 : Int32)), .val (.int (2 : Int32)), .val (.int ((f (i + 2)) &&& (255 : Int32)))] rfl ?_
                      refine o_iload C X d2_203 205 rfl rfl ?_
                      refine o_iload C X d2_205 207 rfl rfl ?_
                      by_cases q48 : ((f (i + 2)) &&& (255 : Int32)) < (128 : Int32)
                      · skip
                        refine o_icmpY C X d2_207 217 (by decide) (by decide) (tlt q48).1 ?_
                        refine o_iconst C X d2_217 218 rfl (-1 : Int32) (by decide) ?_
                        exact o_retI C X hret hlk d2_218 ⟨congrArg some (congrArg _ (by rw [FD]; simp only [if_neg q24, if_neg q25, if_pos q26, if_pos q27, if_neg q28, if_neg q29, if_neg q37, if_neg q45, if_neg q46, if_neg q47, if_pos q48])), rfl, e0⟩ (Nat.le_refl _) (Nat.le_refl _)
                      · skip
                        refine o_icmpN C X d2_207 210 rfl (flt q48).1 ?_
                        refine o_iload C X d2_210 212 rfl rfl ?_
                        refine o_iload C X d2_212 214 rfl rfl ?_
                        by_cases q49 : (191 : Int32) < ((f (i + 2)) &&& (255 : Int32))
                        · skip
                          refine o_icmpN C X d2_214 217 rfl (tlt q49).2.2.2 ?_
                          refine o_iconst C X d2_217 218 rfl (-1 : Int32) (by decide) ?_
                          exact o_retI C X hret hlk d2_218 ⟨congrArg some (congrArg _ (by rw [FD]; simp only [if_neg q24, if_neg q25, if_pos q26, if_pos q27, if_neg q28, if_neg q29, if_neg q37, if_neg q45, if_neg q46, if_neg q47, if_neg q48, if_pos q49])), rfl, e0⟩ (Nat.le_refl _) (Nat.le_refl _)
                        · skip
                          refine o_icmpY C X d2_214 219 (by decide) (by decide) (flt q49).2.2.2 ?_
                          refine o_sipush C X d2_219 222 rfl (128 : Int32) (by decide) ?_
                          refine o_istore C X d2_222 224 rfl #[.val (.ref a), .val (.int p0), .val (.int ((f i) &&& (255 : Int32))), .val (.int (4 : Int32)), .val (.int (((((f i) &&& (255 : Int32)) &&& (7 : Int32)) <<< ((6 : Int32) &&& 31)) ||| (((f (i + 1)) &&& (255 : Int32)) &&& (63 : Int32)))), .val (.int (128 : Int32)), .val (.int (191 : Int32)), .val (.int (2 : Int32)), .val (.int ((f (i + 2)) &&& (255 : Int32)))] rfl ?_
                          refine o_sipush C X d2_224 227 rfl (191 : Int32) (by decide) ?_
                          refine o_istore C X d2_227 229 rfl #[.val (.ref a), .val (.int p0), .val (.int ((f i) &&& (255 : Int32))), .val (.int (4 : Int32)), .val (.int (((((f i) &&& (255 : Int32)) &&& (7 : Int32)) <<< ((6 : Int32) &&& 31)) ||| (((f (i + 1)) &&& (255 : Int32)) &&& (63 : Int32)))), .val (.int (128 : Int32)), .val (.int (191 : Int32)), .val (.int (2 : Int32)), .val (.int ((f (i + 2)) &&& (255 : Int32)))] rfl ?_
                          refine o_iload C X d2_229 231 rfl rfl ?_
                          refine o_bipush C X d2_231 233 rfl (6 : Int32) (by decide) ?_
                          refine o_ishl C X d2_233 234 rfl ?_
                          refine o_iload C X d2_234 236 rfl rfl ?_
                          refine o_bipush C X d2_236 238 rfl (63 : Int32) (by decide) ?_
                          refine o_iand C X d2_238 239 rfl ?_
                          refine o_ior C X d2_239 240 rfl ?_
                          refine o_istore C X d2_240 242 rfl #[.val (.ref a), .val (.int p0), .val (.int ((f i) &&& (255 : Int32))), .val (.int (4 : Int32)), .val (.int (((((((f i) &&& (255 : Int32)) &&& (7 : Int32)) <<< ((6 : Int32) &&& 31)) ||| (((f (i + 1)) &&& (255 : Int32)) &&& (63 : Int32))) <<< ((6 : Int32) &&& 31)) ||| (((f (i + 2)) &&& (255 : Int32)) &&& (63 : Int32)))), .val (.int (128 : Int32)), .val (.int (191 : Int32)), .val (.int (2 : Int32)), .val (.int ((f (i + 2)) &&& (255 : Int32)))] rfl ?_
                          refine o_iinc C X (3 : Int32) d2_242 245 rfl #[.val (.ref a), .val (.int p0), .val (.int ((f i) &&& (255 : Int32))), .val (.int (4 : Int32)), .val (.int (((((((f i) &&& (255 : Int32)) &&& (7 : Int32)) <<< ((6 : Int32) &&& 31)) ||| (((f (i + 1)) &&& (255 : Int32)) &&& (63 : Int32))) <<< ((6 : Int32) &&& 31)) ||| (((f (i + 2)) &&& (255 : Int32)) &&& (63 : Int32)))), .val (.int (128 : Int32)), .val (.int (191 : Int32)), .val (.int (3 : Int32)), .val (.int ((f (i + 2)) &&& (255 : Int32)))] rfl (by decide) rfl ?_
                          refine o_goto C X d2_245 185 (by decide) (by decide) ?_
                          refine o_iload C X d2_185 187 rfl rfl ?_
                          refine o_iloadN C X d2_187 188 rfl rfl ?_
                          refine o_icmpN C X d2_188 191 rfl (tlt (by decide : (3 : Int32) < (4 : Int32))).2.1 ?_
                          refine o_aloadN C X d2_191 192 rfl rfl rfl ?_
                          refine o_iloadN C X d2_192 193 rfl rfl ?_
                          refine o_iload C X d2_193 195 rfl rfl ?_
                          refine o_iadd C X d2_195 196 rfl ?_
                          refine o_baload C X hZ e0 A (i + 3) (own_add hp hi (n := (3 : Int32)) rfl (by decide)) (Nat.lt_of_lt_of_le (by omega) (own_in hp hi (n := (4 : Int32)) (k := 4) rfl (by decide) q45)) d2_196 197 rfl ?_
                          refine o_sipush C X d2_197 200 rfl (255 : Int32) (by decide) ?_
                          refine o_iand C X d2_200 201 rfl ?_
                          refine o_istore C X d2_201 203 rfl #[.val (.ref a), .val (.int p0), .val (.int ((f i) &&& (255 : Int32))), .val (.int (4 : Int32)), .val (.int (((((((f i) &&& (255 : Int32)) &&& (7 : Int32)) <<< ((6 : Int32) &&& 31)) ||| (((f (i + 1)) &&& (255 : Int32)) &&& (63 : Int32))) <<< ((6 : Int32) &&& 31)) ||| (((f (i + 2)) &&& (255 : Int32)) &&& (63 : Int32)))), .val (.int (128 : Int32)), .val (.int (191 : Int32)), .val (.int (3 : Int32)), .val (.int ((f (i + 3)) &&& (255 : Int32)))] rfl ?_
                          refine o_iload C X d2_203 205 rfl rfl ?_
                          refine o_iload C X d2_205 207 rfl rfl ?_
                          by_cases q50 : ((f (i + 3)) &&& (255 : Int32)) < (128 : Int32)
                          · skip
                            refine o_icmpY C X d2_207 217 (by decide) (by decide) (tlt q50).1 ?_
                            refine o_iconst C X d2_217 218 rfl (-1 : Int32) (by decide) ?_
                            exact o_retI C X hret hlk d2_218 ⟨congrArg some (congrArg _ (by rw [FD]; simp only [if_neg q24, if_neg q25, if_pos q26, if_pos q27, if_neg q28, if_neg q29, if_neg q37, if_neg q45, if_neg q46, if_neg q47, if_neg q48, if_neg q49, if_pos q50])), rfl, e0⟩ (Nat.le_refl _) (Nat.le_refl _)
                          · skip
                            refine o_icmpN C X d2_207 210 rfl (flt q50).1 ?_
                            refine o_iload C X d2_210 212 rfl rfl ?_
                            refine o_iload C X d2_212 214 rfl rfl ?_
                            by_cases q51 : (191 : Int32) < ((f (i + 3)) &&& (255 : Int32))
                            · skip
                              refine o_icmpN C X d2_214 217 rfl (tlt q51).2.2.2 ?_
                              refine o_iconst C X d2_217 218 rfl (-1 : Int32) (by decide) ?_
                              exact o_retI C X hret hlk d2_218 ⟨congrArg some (congrArg _ (by rw [FD]; simp only [if_neg q24, if_neg q25, if_pos q26, if_pos q27, if_neg q28, if_neg q29, if_neg q37, if_neg q45, if_neg q46, if_neg q47, if_neg q48, if_neg q49, if_neg q50, if_pos q51])), rfl, e0⟩ (Nat.le_refl _) (Nat.le_refl _)
                            · skip
                              refine o_icmpY C X d2_214 219 (by decide) (by decide) (flt q51).2.2.2 ?_
                              refine o_sipush C X d2_219 222 rfl (128 : Int32) (by decide) ?_
                              refine o_istore C X d2_222 224 rfl #[.val (.ref a), .val (.int p0), .val (.int ((f i) &&& (255 : Int32))), .val (.int (4 : Int32)), .val (.int (((((((f i) &&& (255 : Int32)) &&& (7 : Int32)) <<< ((6 : Int32) &&& 31)) ||| (((f (i + 1)) &&& (255 : Int32)) &&& (63 : Int32))) <<< ((6 : Int32) &&& 31)) ||| (((f (i + 2)) &&& (255 : Int32)) &&& (63 : Int32)))), .val (.int (128 : Int32)), .val (.int (191 : Int32)), .val (.int (3 : Int32)), .val (.int ((f (i + 3)) &&& (255 : Int32)))] rfl ?_
                              refine o_sipush C X d2_224 227 rfl (191 : Int32) (by decide) ?_
                              refine o_istore C X d2_227 229 rfl #[.val (.ref a), .val (.int p0), .val (.int ((f i) &&& (255 : Int32))), .val (.int (4 : Int32)), .val (.int (((((((f i) &&& (255 : Int32)) &&& (7 : Int32)) <<< ((6 : Int32) &&& 31)) ||| (((f (i + 1)) &&& (255 : Int32)) &&& (63 : Int32))) <<< ((6 : Int32) &&& 31)) ||| (((f (i + 2)) &&& (255 : Int32)) &&& (63 : Int32)))), .val (.int (128 : Int32)), .val (.int (191 : Int32)), .val (.int (3 : Int32)), .val (.int ((f (i + 3)) &&& (255 : Int32)))] rfl ?_
                              refine o_iload C X d2_229 231 rfl rfl ?_
                              refine o_bipush C X d2_231 233 rfl (6 : Int32) (by decide) ?_
                              refine o_ishl C X d2_233 234 rfl ?_
                              refine o_iload C X d2_234 236 rfl rfl ?_
                              refine o_bipush C X d2_236 238 rfl (63 : Int32) (by decide) ?_
                              refine o_iand C X d2_238 239 rfl ?_
                              refine o_ior C X d2_239 240 rfl ?_
                              refine o_istore C X d2_240 242 rfl #[.val (.ref a), .val (.int p0), .val (.int ((f i) &&& (255 : Int32))), .val (.int (4 : Int32)), .val (.int (((((((((f i) &&& (255 : Int32)) &&& (7 : Int32)) <<< ((6 : Int32) &&& 31)) ||| (((f (i + 1)) &&& (255 : Int32)) &&& (63 : Int32))) <<< ((6 : Int32) &&& 31)) ||| (((f (i + 2)) &&& (255 : Int32)) &&& (63 : Int32))) <<< ((6 : Int32) &&& 31)) ||| (((f (i + 3)) &&& (255 : Int32)) &&& (63 : Int32)))), .val (.int (128 : Int32)), .val (.int (191 : Int32)), .val (.int (3 : Int32)), .val (.int ((f (i + 3)) &&& (255 : Int32)))] rfl ?_
                              refine o_iinc C X (4 : Int32) d2_242 245 rfl #[.val (.ref a), .val (.int p0), .val (.int ((f i) &&& (255 : Int32))), .val (.int (4 : Int32)), .val (.int (((((((((f i) &&& (255 : Int32)) &&& (7 : Int32)) <<< ((6 : Int32) &&& 31)) ||| (((f (i + 1)) &&& (255 : Int32)) &&& (63 : Int32))) <<< ((6 : Int32) &&& 31)) ||| (((f (i + 2)) &&& (255 : Int32)) &&& (63 : Int32))) <<< ((6 : Int32) &&& 31)) ||| (((f (i + 3)) &&& (255 : Int32)) &&& (63 : Int32)))), .val (.int (128 : Int32)), .val (.int (191 : Int32)), .val (.int (4 : Int32)), .val (.int ((f (i + 3)) &&& (255 : Int32)))] rfl (by decide) rfl ?_
                              refine o_goto C X d2_245 185 (by decide) (by decide) ?_
                              refine o_iload C X d2_185 187 rfl rfl ?_
                              refine o_iloadN C X d2_187 188 rfl rfl ?_
                              refine o_icmpY C X d2_188 248 (by decide) (by decide) (flt (by decide : ¬ ((4 : Int32) < (4 : Int32)))).2.1 ?_
                              refine o_iload C X d2_248 250 rfl rfl ?_
                              exact o_retI C X hret hlk d2_250 ⟨congrArg some (congrArg _ (by rw [FD]; simp only [if_neg q24, if_neg q25, if_pos q26, if_pos q27, if_neg q28, if_neg q29, if_neg q37, if_neg q45, if_neg q46, if_neg q47, if_neg q48, if_neg q49, if_neg q50, if_neg q51])), rfl, e0⟩ (Nat.le_refl _) (Nat.le_refl _)
        · skip
          refine o_icmpN C X d2_63 66 rfl (flt q27).2.2.1 ?_
          refine o_iconst C X d2_66 67 rfl (3 : Int32) (by decide) ?_
          refine o_istoreN C X d2_67 68 rfl #[.val (.ref a), .val (.int p0), .val (.int ((f i) &&& (255 : Int32))), .val (.int (3 : Int32)), .unset, .val (.int (128 : Int32)), .val (.int (191 : Int32)), .unset, .unset] rfl ?_
          refine o_iloadN C X d2_68 69 rfl rfl ?_
          refine o_bipush C X d2_69 71 rfl (15 : Int32) (by decide) ?_
          refine o_iand C X d2_71 72 rfl ?_
          refine o_istore C X d2_72 74 rfl #[.val (.ref a), .val (.int p0), .val (.int ((f i) &&& (255 : Int32))), .val (.int (3 : Int32)), .val (.int (((f i) &&& (255 : Int32)) &&& (15 : Int32))), .val (.int (128 : Int32)), .val (.int (191 : Int32)), .unset, .unset] rfl ?_
          refine o_iloadN C X d2_74 75 rfl rfl ?_
          refine o_sipush C X d2_75 78 rfl (224 : Int32) (by decide) ?_
          by_cases q52 : ((f i) &&& (255 : Int32)) = (224 : Int32)
          · skip
            refine o_icmpN C X d2_78 81 rfl (teq q52).2 ?_
            refine o_sipush C X d2_81 84 rfl (160 : Int32) (by decide) ?_
            refine o_goto C X d2_84 89 (by decide) (by decide) ?_
            refine o_istore C X d2_89 91 rfl #[.val (.ref a), .val (.int p0), .val (.int ((f i) &&& (255 : Int32))), .val (.int (3 : Int32)), .val (.int (((f i) &&& (255 : Int32)) &&& (15 : Int32))), .val (.int (160 : Int32)), .val (.int (191 : Int32)), .unset, .unset] rfl ?_
            refine o_iloadN C X d2_91 92 rfl rfl ?_
            refine o_sipush C X d2_92 95 rfl (237 : Int32) (by decide) ?_
            refine o_icmpY C X d2_95 104 (by decide) (by decide) (feq (by simp only [Int32.lt_iff_toInt_lt, ← Int32.toInt_inj, show (128 : Int32).toInt = 128 from rfl, show (194 : Int32).toInt = 194 from rfl, show (223 : Int32).toInt = 223 from rfl, show (224 : Int32).toInt = 224 from rfl, show (237 : Int32).toInt = 237 from rfl, show (239 : Int32).toInt = 239 from rfl, show (255 : Int32).toInt = 255 from rfl] at q24 q25 q26 q27 q52 ⊢; omega : ¬ (((f i) &&& (255 : Int32)) = (237 : Int32)))).2 ?_
            refine o_iload C X d2_104 106 rfl rfl ?_
            refine o_istore C X d2_106 108 rfl #[.val (.ref a), .val (.int p0), .val (.int ((f i) &&& (255 : Int32))), .val (.int (3 : Int32)), .val (.int (((f i) &&& (255 : Int32)) &&& (15 : Int32))), .val (.int (160 : Int32)), .val (.int (191 : Int32)), .unset, .unset] rfl ?_
            refine o_goto C X d2_108 172 (by decide) (by decide) ?_
            refine o_iloadN C X d2_172 173 rfl rfl ?_
            refine o_iloadN C X d2_173 174 rfl rfl ?_
            refine o_iadd C X d2_174 175 rfl ?_
            refine o_aloadN C X d2_175 176 rfl rfl rfl ?_
            refine o_arraylength C X hZ e0 A (5 : Int32) rfl d2_176 177 rfl ?_
            by_cases q53 : (5 : Int32) < (p0 + (3 : Int32))
            · skip
              refine o_icmpN C X d2_177 180 rfl (tlt q53).2.2.2 ?_
              refine o_iconst C X d2_180 181 rfl (-1 : Int32) (by decide) ?_
              exact o_retI C X hret hlk d2_181 ⟨congrArg some (congrArg _ (by rw [FD]; simp only [if_neg q24, if_neg q25, if_pos q26, if_neg q27, if_pos q52, if_pos q53])), rfl, e0⟩ (Nat.le_refl _) (Nat.le_refl _)
            · skip
              refine o_icmpY C X d2_177 182 (by decide) (by decide) (flt q53).2.2.2 ?_
              refine o_iconst C X d2_182 183 rfl (1 : Int32) (by decide) ?_
              refine o_istore C X d2_183 185 rfl #[.val (.ref a), .val (.int p0), .val (.int ((f i) &&& (255 : Int32))), .val (.int (3 : Int32)), .val (.int (((f i) &&& (255 : Int32)) &&& (15 : Int32))), .val (.int (160 : Int32)), .val (.int (191 : Int32)), .val (.int (1 : Int32)), .unset] rfl ?_
              refine o_iload C X d2_185 187 rfl rfl ?_
              refine o_iloadN C X d2_187 188 rfl rfl ?_
              refine o_icmpN C X d2_188 191 rfl (tlt (by decide : (1 : Int32) < (3 : Int32))).2.1 ?_
              refine o_aloadN C X d2_191 192 rfl rfl rfl ?_
              refine o_iloadN C X d2_192 193 rfl rfl ?_
              refine o_iload C X d2_193 195 rfl rfl ?_
              refine o_iadd C X d2_195 196 rfl ?_
              refine o_baload C X hZ e0 A (i + 1) (own_add hp hi (n := (1 : Int32)) rfl (by decide)) (Nat.lt_of_lt_of_le (by omega) (own_in hp hi (n := (3 : Int32)) (k := 3) rfl (by decide) q53)) d2_196 197 rfl ?_
              refine o_sipush C X d2_197 200 rfl (255 : Int32) (by decide) ?_
              refine o_iand C X d2_200 201 rfl ?_
              refine o_istore C X d2_201 203 rfl #[.val (.ref a), .val (.int p0), .val (.int ((f i) &&& (255 : Int32))), .val (.int (3 : Int32)), .val (.int (((f i) &&& (255 : Int32)) &&& (15 : Int32))), .val (.int (160 : Int32)), .val (.int (191 : Int32)), .val (.int (1 : Int32)), .val (.int ((f (i + 1)) &&& (255 : Int32)))] rfl ?_
              refine o_iload C X d2_203 205 rfl rfl ?_
              refine o_iload C X d2_205 207 rfl rfl ?_
              by_cases q54 : ((f (i + 1)) &&& (255 : Int32)) < (160 : Int32)
              · skip
                refine o_icmpY C X d2_207 217 (by decide) (by decide) (tlt q54).1 ?_
                refine o_iconst C X d2_217 218 rfl (-1 : Int32) (by decide) ?_
                exact o_retI C X hret hlk d2_218 ⟨congrArg some (congrArg _ (by rw [FD]; simp only [if_neg q24, if_neg q25, if_pos q26, if_neg q27, if_pos q52, if_neg q53, if_pos q54])), rfl, e0⟩ (Nat.le_refl _) (Nat.le_refl _)
              · skip
                refine o_icmpN C X d2_207 210 rfl (flt q54).1 ?_
                refine o_iload C X d2_210 212 rfl rfl ?_
                refine o_iload C X d2_212 214 rfl rfl ?_
                by_cases q55 : (191 : Int32) < ((f (i + 1)) &&& (255 : Int32))
                · skip
                  refine o_icmpN C X d2_214 217 rfl (tlt q55).2.2.2 ?_
                  refine o_iconst C X d2_217 218 rfl (-1 : Int32) (by decide) ?_
                  exact o_retI C X hret hlk d2_218 ⟨congrArg some (congrArg _ (by rw [FD]; simp only [if_neg q24, if_neg q25, if_pos q26, if_neg q27, if_pos q52, if_neg q53, if_neg q54, if_pos q55])), rfl, e0⟩ (Nat.le_refl _) (Nat.le_refl _)
                · skip
                  refine o_icmpY C X d2_214 219 (by decide) (by decide) (flt q55).2.2.2 ?_
                  refine o_sipush C X d2_219 222 rfl (128 : Int32) (by decide) ?_
                  refine o_istore C X d2_222 224 rfl #[.val (.ref a), .val (.int p0), .val (.int ((f i) &&& (255 : Int32))), .val (.int (3 : Int32)), .val (.int (((f i) &&& (255 : Int32)) &&& (15 : Int32))), .val (.int (128 : Int32)), .val (.int (191 : Int32)), .val (.int (1 : Int32)), .val (.int ((f (i + 1)) &&& (255 : Int32)))] rfl ?_
                  refine o_sipush C X d2_224 227 rfl (191 : Int32) (by decide) ?_
                  refine o_istore C X d2_227 229 rfl #[.val (.ref a), .val (.int p0), .val (.int ((f i) &&& (255 : Int32))), .val (.int (3 : Int32)), .val (.int (((f i) &&& (255 : Int32)) &&& (15 : Int32))), .val (.int (128 : Int32)), .val (.int (191 : Int32)), .val (.int (1 : Int32)), .val (.int ((f (i + 1)) &&& (255 : Int32)))] rfl ?_
                  refine o_iload C X d2_229 231 rfl rfl ?_
                  refine o_bipush C X d2_231 233 rfl (6 : Int32) (by decide) ?_
                  refine o_ishl C X d2_233 234 rfl ?_
                  refine o_iload C X d2_234 236 rfl rfl ?_
                  refine o_bipush C X d2_236 238 rfl (63 : Int32) (by decide) ?_
                  refine o_iand C X d2_238 239 rfl ?_
                  refine o_ior C X d2_239 240 rfl ?_
                  refine o_istore C X d2_240 242 rfl #[.val (.ref a), .val (.int p0), .val (.int ((f i) &&& (255 : Int32))), .val (.int (3 : Int32)), .val (.int (((((f i) &&& (255 : Int32)) &&& (15 : Int32)) <<< ((6 : Int32) &&& 31)) ||| (((f (i + 1)) &&& (255 : Int32)) &&& (63 : Int32)))), .val (.int (128 : Int32)), .val (.int (191 : Int32)), .val (.int (1 : Int32)), .val (.int ((f (i + 1)) &&& (255 : Int32)))] rfl ?_
                  refine o_iinc C X (2 : Int32) d2_242 245 rfl #[.val (.ref a), .val (.int p0), .val (.int ((f i) &&& (255 : Int32))), .val (.int (3 : Int32)), .val (.int (((((f i) &&& (255 : Int32)) &&& (15 : Int32)) <<< ((6 : Int32) &&& 31)) ||| (((f (i + 1)) &&& (255 : Int32)) &&& (63 : Int32)))), .val (.int (128 : Int32)), .val (.int (191 : Int32)), .val (.int (2 : Int32)), .val (.int ((f (i + 1)) &&& (255 : Int32)))] rfl (by decide) rfl ?_
                  refine o_goto C X d2_245 185 (by decide) (by decide) ?_
                  refine o_iload C X d2_185 187 rfl rfl ?_
                  refine o_iloadN C X d2_187 188 rfl rfl ?_
                  refine o_icmpN C X d2_188 191 rfl (tlt (by decide : (2 : Int32) < (3 : Int32))).2.1 ?_
                  refine o_aloadN C X d2_191 192 rfl rfl rfl ?_
                  refine o_iloadN C X d2_192 193 rfl rfl ?_
                  refine o_iload C X d2_193 195 rfl rfl ?_
                  refine o_iadd C X d2_195 196 rfl ?_
                  refine o_baload C X hZ e0 A (i + 2) (own_add hp hi (n := (2 : Int32)) rfl (by decide)) (Nat.lt_of_lt_of_le (by omega) (own_in hp hi (n := (3 : Int32)) (k := 3) rfl (by decide) q53)) d2_196 197 rfl ?_
                  refine o_sipush C X d2_197 200 rfl (255 : Int32) (by decide) ?_
                  refine o_iand C X d2_200 201 rfl ?_
                  refine o_istore C X d2_201 203 rfl #[.val (.ref a), .val (.int p0), .val (.int ((f i) &&& (255 : Int32))), .val (.int (3 : Int32)), .val (.int (((((f i) &&& (255 : Int32)) &&& (15 : Int32)) <<< ((6 : Int32) &&& 31)) ||| (((f (i + 1)) &&& (255 : Int32)) &&& (63 : Int32)))), .val (.int (128 : Int32)), .val (.int (191 : Int32)), .val (.int (2 : Int32)), .val (.int ((f (i + 2)) &&& (255 : Int32)))] rfl ?_
                  refine o_iload C X d2_203 205 rfl rfl ?_
                  refine o_iload C X d2_205 207 rfl rfl ?_
                  by_cases q56 : ((f (i + 2)) &&& (255 : Int32)) < (128 : Int32)
                  · skip
                    refine o_icmpY C X d2_207 217 (by decide) (by decide) (tlt q56).1 ?_
                    refine o_iconst C X d2_217 218 rfl (-1 : Int32) (by decide) ?_
                    exact o_retI C X hret hlk d2_218 ⟨congrArg some (congrArg _ (by rw [FD]; simp only [if_neg q24, if_neg q25, if_pos q26, if_neg q27, if_pos q52, if_neg q53, if_neg q54, if_neg q55, if_pos q56])), rfl, e0⟩ (Nat.le_refl _) (Nat.le_refl _)
                  · skip
                    refine o_icmpN C X d2_207 210 rfl (flt q56).1 ?_
                    refine o_iload C X d2_210 212 rfl rfl ?_
                    refine o_iload C X d2_212 214 rfl rfl ?_
                    by_cases q57 : (191 : Int32) < ((f (i + 2)) &&& (255 : Int32))
                    · skip
                      refine o_icmpN C X d2_214 217 rfl (tlt q57).2.2.2 ?_
                      refine o_iconst C X d2_217 218 rfl (-1 : Int32) (by decide) ?_
                      exact o_retI C X hret hlk d2_218 ⟨congrArg some (congrArg _ (by rw [FD]; simp only [if_neg q24, if_neg q25, if_pos q26, if_neg q27, if_pos q52, if_neg q53, if_neg q54, if_neg q55, if_neg q56, if_pos q57])), rfl, e0⟩ (Nat.le_refl _) (Nat.le_refl _)
                    · skip
                      refine o_icmpY C X d2_214 219 (by decide) (by decide) (flt q57).2.2.2 ?_
                      refine o_sipush C X d2_219 222 rfl (128 : Int32) (by decide) ?_
                      refine o_istore C X d2_222 224 rfl #[.val (.ref a), .val (.int p0), .val (.int ((f i) &&& (255 : Int32))), .val (.int (3 : Int32)), .val (.int (((((f i) &&& (255 : Int32)) &&& (15 : Int32)) <<< ((6 : Int32) &&& 31)) ||| (((f (i + 1)) &&& (255 : Int32)) &&& (63 : Int32)))), .val (.int (128 : Int32)), .val (.int (191 : Int32)), .val (.int (2 : Int32)), .val (.int ((f (i + 2)) &&& (255 : Int32)))] rfl ?_
                      refine o_sipush C X d2_224 227 rfl (191 : Int32) (by decide) ?_
                      refine o_istore C X d2_227 229 rfl #[.val (.ref a), .val (.int p0), .val (.int ((f i) &&& (255 : Int32))), .val (.int (3 : Int32)), .val (.int (((((f i) &&& (255 : Int32)) &&& (15 : Int32)) <<< ((6 : Int32) &&& 31)) ||| (((f (i + 1)) &&& (255 : Int32)) &&& (63 : Int32)))), .val (.int (128 : Int32)), .val (.int (191 : Int32)), .val (.int (2 : Int32)), .val (.int ((f (i + 2)) &&& (255 : Int32)))] rfl ?_
                      refine o_iload C X d2_229 231 rfl rfl ?_
                      refine o_bipush C X d2_231 233 rfl (6 : Int32) (by decide) ?_
                      refine o_ishl C X d2_233 234 rfl ?_
                      refine o_iload C X d2_234 236 rfl rfl ?_
                      refine o_bipush C X d2_236 238 rfl (63 : Int32) (by decide) ?_
                      refine o_iand C X d2_238 239 rfl ?_
                      refine o_ior C X d2_239 240 rfl ?_
                      refine o_istore C X d2_240 242 rfl #[.val (.ref a), .val (.int p0), .val (.int ((f i) &&& (255 : Int32))), .val (.int (3 : Int32)), .val (.int (((((((f i) &&& (255 : Int32)) &&& (15 : Int32)) <<< ((6 : Int32) &&& 31)) ||| (((f (i + 1)) &&& (255 : Int32)) &&& (63 : Int32))) <<< ((6 : Int32) &&& 31)) ||| (((f (i + 2)) &&& (255 : Int32)) &&& (63 : Int32)))), .val (.int (128 : Int32)), .val (.int (191 : Int32)), .val (.int (2 : Int32)), .val (.int ((f (i + 2)) &&& (255 : Int32)))] rfl ?_
                      refine o_iinc C X (3 : Int32) d2_242 245 rfl #[.val (.ref a), .val (.int p0), .val (.int ((f i) &&& (255 : Int32))), .val (.int (3 : Int32)), .val (.int (((((((f i) &&& (255 : Int32)) &&& (15 : Int32)) <<< ((6 : Int32) &&& 31)) ||| (((f (i + 1)) &&& (255 : Int32)) &&& (63 : Int32))) <<< ((6 : Int32) &&& 31)) ||| (((f (i + 2)) &&& (255 : Int32)) &&& (63 : Int32)))), .val (.int (128 : Int32)), .val (.int (191 : Int32)), .val (.int (3 : Int32)), .val (.int ((f (i + 2)) &&& (255 : Int32)))] rfl (by decide) rfl ?_
                      refine o_goto C X d2_245 185 (by decide) (by decide) ?_
                      refine o_iload C X d2_185 187 rfl rfl ?_
                      refine o_iloadN C X d2_187 188 rfl rfl ?_
                      refine o_icmpY C X d2_188 248 (by decide) (by decide) (flt (by decide : ¬ ((3 : Int32) < (3 : Int32)))).2.1 ?_
                      refine o_iload C X d2_248 250 rfl rfl ?_
                      exact o_retI C X hret hlk d2_250 ⟨congrArg some (congrArg _ (by rw [FD]; simp only [if_neg q24, if_neg q25, if_pos q26, if_neg q27, if_pos q52, if_neg q53, if_neg q54, if_neg q55, if_neg q56, if_neg q57])), rfl, e0⟩ (Nat.le_refl _) (Nat.le_refl _)
          · skip
            refine o_icmpY C X d2_78 87 (by decide) (by decide) (feq q52).2 ?_
            refine o_iload C X d2_87 89 rfl rfl ?_
            refine o_istore C X d2_89 91 rfl #[.val (.ref a), .val (.int p0), .val (.int ((f i) &&& (255 : Int32))), .val (.int (3 : Int32)), .val (.int (((f i) &&& (255 : Int32)) &&& (15 : Int32))), .val (.int (128 : Int32)), .val (.int (191 : Int32)), .unset, .unset] rfl ?_
            refine o_iloadN C X d2_91 92 rfl rfl ?_
            refine o_sipush C X d2_92 95 rfl (237 : Int32) (by decide) ?_
            by_cases q58 : ((f i) &&& (255 : Int32)) = (237 : Int32)
            · skip
              refine o_icmpN C X d2_95 98 rfl (teq q58).2 ?_
              refine o_sipush C X d2_98 101 rfl (159 : Int32) (by decide) ?_
              refine o_goto C X d2_101 106 (by decide) (by decide) ?_
              refine o_istore C X d2_106 108 rfl #[.val (.ref a), .val (.int p0), .val (.int ((f i) &&& (255 : Int32))), .val (.int (3 : Int32)), .val (.int (((f i) &&& (255 : Int32)) &&& (15 : Int32))), .val (.int (128 : Int32)), .val (.int (159 : Int32)), .unset, .unset] rfl ?_
              refine o_goto C X d2_108 172 (by decide) (by decide) ?_
              refine o_iloadN C X d2_172 173 rfl rfl ?_
              refine o_iloadN C X d2_173 174 rfl rfl ?_
              refine o_iadd C X d2_174 175 rfl ?_
              refine o_aloadN C X d2_175 176 rfl rfl rfl ?_
              refine o_arraylength C X hZ e0 A (5 : Int32) rfl d2_176 177 rfl ?_
              by_cases q59 : (5 : Int32) < (p0 + (3 : Int32))
              · skip
                refine o_icmpN C X d2_177 180 rfl (tlt q59).2.2.2 ?_
                refine o_iconst C X d2_180 181 rfl (-1 : Int32) (by decide) ?_
                exact o_retI C X hret hlk d2_181 ⟨congrArg some (congrArg _ (by rw [FD]; simp only [if_neg q24, if_neg q25, if_pos q26, if_neg q27, if_neg q52, if_pos q58, if_pos q59])), rfl, e0⟩ (Nat.le_refl _) (Nat.le_refl _)
              · skip
                refine o_icmpY C X d2_177 182 (by decide) (by decide) (flt q59).2.2.2 ?_
                refine o_iconst C X d2_182 183 rfl (1 : Int32) (by decide) ?_
                refine o_istore C X d2_183 185 rfl #[.val (.ref a), .val (.int p0), .val (.int ((f i) &&& (255 : Int32))), .val (.int (3 : Int32)), .val (.int (((f i) &&& (255 : Int32)) &&& (15 : Int32))), .val (.int (128 : Int32)), .val (.int (159 : Int32)), .val (.int (1 : Int32)), .unset] rfl ?_
                refine o_iload C X d2_185 187 rfl rfl ?_
                refine o_iloadN C X d2_187 188 rfl rfl ?_
                refine o_icmpN C X d2_188 191 rfl (tlt (by decide : (1 : Int32) < (3 : Int32))).2.1 ?_
                refine o_aloadN C X d2_191 192 rfl rfl rfl ?_
                refine o_iloadN C X d2_192 193 rfl rfl ?_
                refine o_iload C X d2_193 195 rfl rfl ?_
                refine o_iadd C X d2_195 196 rfl ?_
                refine o_baload C X hZ e0 A (i + 1) (own_add hp hi (n := (1 : Int32)) rfl (by decide)) (Nat.lt_of_lt_of_le (by omega) (own_in hp hi (n := (3 : Int32)) (k := 3) rfl (by decide) q59)) d2_196 197 rfl ?_
                refine o_sipush C X d2_197 200 rfl (255 : Int32) (by decide) ?_
                refine o_iand C X d2_200 201 rfl ?_
                refine o_istore C X d2_201 203 rfl #[.val (.ref a), .val (.int p0), .val (.int ((f i) &&& (255 : Int32))), .val (.int (3 : Int32)), .val (.int (((f i) &&& (255 : Int32)) &&& (15 : Int32))), .val (.int (128 : Int32)), .val (.int (159 : Int32)), .val (.int (1 : Int32)), .val (.int ((f (i + 1)) &&& (255 : Int32)))] rfl ?_
                refine o_iload C X d2_203 205 rfl rfl ?_
                refine o_iload C X d2_205 207 rfl rfl ?_
                by_cases q60 : ((f (i + 1)) &&& (255 : Int32)) < (128 : Int32)
                · skip
                  refine o_icmpY C X d2_207 217 (by decide) (by decide) (tlt q60).1 ?_
                  refine o_iconst C X d2_217 218 rfl (-1 : Int32) (by decide) ?_
                  exact o_retI C X hret hlk d2_218 ⟨congrArg some (congrArg _ (by rw [FD]; simp only [if_neg q24, if_neg q25, if_pos q26, if_neg q27, if_neg q52, if_pos q58, if_neg q59, if_pos q60])), rfl, e0⟩ (Nat.le_refl _) (Nat.le_refl _)
                · skip
                  refine o_icmpN C X d2_207 210 rfl (flt q60).1 ?_
                  refine o_iload C X d2_210 212 rfl rfl ?_
                  refine o_iload C X d2_212 214 rfl rfl ?_
                  by_cases q61 : (159 : Int32) < ((f (i + 1)) &&& (255 : Int32))
                  · skip
                    refine o_icmpN C X d2_214 217 rfl (tlt q61).2.2.2 ?_
                    refine o_iconst C X d2_217 218 rfl (-1 : Int32) (by decide) ?_
                    exact o_retI C X hret hlk d2_218 ⟨congrArg some (congrArg _ (by rw [FD]; simp only [if_neg q24, if_neg q25, if_pos q26, if_neg q27, if_neg q52, if_pos q58, if_neg q59, if_neg q60, if_pos q61])), rfl, e0⟩ (Nat.le_refl _) (Nat.le_refl _)
                  · skip
                    refine o_icmpY C X d2_214 219 (by decide) (by decide) (flt q61).2.2.2 ?_
                    refine o_sipush C X d2_219 222 rfl (128 : Int32) (by decide) ?_
                    refine o_istore C X d2_222 224 rfl #[.val (.ref a), .val (.int p0), .val (.int ((f i) &&& (255 : Int32))), .val (.int (3 : Int32)), .val (.int (((f i) &&& (255 : Int32)) &&& (15 : Int32))), .val (.int (128 : Int32)), .val (.int (159 : Int32)), .val (.int (1 : Int32)), .val (.int ((f (i + 1)) &&& (255 : Int32)))] rfl ?_
                    refine o_sipush C X d2_224 227 rfl (191 : Int32) (by decide) ?_
                    refine o_istore C X d2_227 229 rfl #[.val (.ref a), .val (.int p0), .val (.int ((f i) &&& (255 : Int32))), .val (.int (3 : Int32)), .val (.int (((f i) &&& (255 : Int32)) &&& (15 : Int32))), .val (.int (128 : Int32)), .val (.int (191 : Int32)), .val (.int (1 : Int32)), .val (.int ((f (i + 1)) &&& (255 : Int32)))] rfl ?_
                    refine o_iload C X d2_229 231 rfl rfl ?_
                    refine o_bipush C X d2_231 233 rfl (6 : Int32) (by decide) ?_
                    refine o_ishl C X d2_233 234 rfl ?_
                    refine o_iload C X d2_234 236 rfl rfl ?_
                    refine o_bipush C X d2_236 238 rfl (63 : Int32) (by decide) ?_
                    refine o_iand C X d2_238 239 rfl ?_
                    refine o_ior C X d2_239 240 rfl ?_
                    refine o_istore C X d2_240 242 rfl #[.val (.ref a), .val (.int p0), .val (.int ((f i) &&& (255 : Int32))), .val (.int (3 : Int32)), .val (.int (((((f i) &&& (255 : Int32)) &&& (15 : Int32)) <<< ((6 : Int32) &&& 31)) ||| (((f (i + 1)) &&& (255 : Int32)) &&& (63 : Int32)))), .val (.int (128 : Int32)), .val (.int (191 : Int32)), .val (.int (1 : Int32)), .val (.int ((f (i + 1)) &&& (255 : Int32)))] rfl ?_
                    refine o_iinc C X (2 : Int32) d2_242 245 rfl #[.val (.ref a), .val (.int p0), .val (.int ((f i) &&& (255 : Int32))), .val (.int (3 : Int32)), .val (.int (((((f i) &&& (255 : Int32)) &&& (15 : Int32)) <<< ((6 : Int32) &&& 31)) ||| (((f (i + 1)) &&& (255 : Int32)) &&& (63 : Int32)))), .val (.int (128 : Int32)), .val (.int (191 : Int32)), .val (.int (2 : Int32)), .val (.int ((f (i + 1)) &&& (255 : Int32)))] rfl (by decide) rfl ?_
                    refine o_goto C X d2_245 185 (by decide) (by decide) ?_
                    refine o_iload C X d2_185 187 rfl rfl ?_
                    refine o_iloadN C X d2_187 188 rfl rfl ?_
                    refine o_icmpN C X d2_188 191 rfl (tlt (by decide : (2 : Int32) < (3 : Int32))).2.1 ?_
                    refine o_aloadN C X d2_191 192 rfl rfl rfl ?_
                    refine o_iloadN C X d2_192 193 rfl rfl ?_
                    refine o_iload C X d2_193 195 rfl rfl ?_
                    refine o_iadd C X d2_195 196 rfl ?_
                    refine o_baload C X hZ e0 A (i + 2) (own_add hp hi (n := (2 : Int32)) rfl (by decide)) (Nat.lt_of_lt_of_le (by omega) (own_in hp hi (n := (3 : Int32)) (k := 3) rfl (by decide) q59)) d2_196 197 rfl ?_
                    refine o_sipush C X d2_197 200 rfl (255 : Int32) (by decide) ?_
                    refine o_iand C X d2_200 201 rfl ?_
                    refine o_istore C X d2_201 203 rfl #[.val (.ref a), .val (.int p0), .val (.int ((f i) &&& (255 : Int32))), .val (.int (3 : Int32)), .val (.int (((((f i) &&& (255 : Int32)) &&& (15 : Int32)) <<< ((6 : Int32) &&& 31)) ||| (((f (i + 1)) &&& (255 : Int32)) &&& (63 : Int32)))), .val (.int (128 : Int32)), .val (.int (191 : Int32)), .val (.int (2 : Int32)), .val (.int ((f (i + 2)) &&& (255 : Int32)))] rfl ?_
                    refine o_iload C X d2_203 205 rfl rfl ?_
                    refine o_iload C X d2_205 207 rfl rfl ?_
                    by_cases q62 : ((f (i + 2)) &&& (255 : Int32)) < (128 : Int32)
                    · skip
                      refine o_icmpY C X d2_207 217 (by decide) (by decide) (tlt q62).1 ?_
                      refine o_iconst C X d2_217 218 rfl (-1 : Int32) (by decide) ?_
                      exact o_retI C X hret hlk d2_218 ⟨congrArg some (congrArg _ (by rw [FD]; simp only [if_neg q24, if_neg q25, if_pos q26, if_neg q27, if_neg q52, if_pos q58, if_neg q59, if_neg q60, if_neg q61, if_pos q62])), rfl, e0⟩ (Nat.le_refl _) (Nat.le_refl _)
                    · skip
                      refine o_icmpN C X d2_207 210 rfl (flt q62).1 ?_
                      refine o_iload C X d2_210 212 rfl rfl ?_
                      refine o_iload C X d2_212 214 rfl rfl ?_
                      by_cases q63 : (191 : Int32) < ((f (i + 2)) &&& (255 : Int32))
                      · skip
                        refine o_icmpN C X d2_214 217 rfl (tlt q63).2.2.2 ?_
                        refine o_iconst C X d2_217 218 rfl (-1 : Int32) (by decide) ?_
                        exact o_retI C X hret hlk d2_218 ⟨congrArg some (congrArg _ (by rw [FD]; simp only [if_neg q24, if_neg q25, if_pos q26, if_neg q27, if_neg q52, if_pos q58, if_neg q59, if_neg q60, if_neg q61, if_neg q62, if_pos q63])), rfl, e0⟩ (Nat.le_refl _) (Nat.le_refl _)
                      · skip
                        refine o_icmpY C X d2_214 219 (by decide) (by decide) (flt q63).2.2.2 ?_
                        refine o_sipush C X d2_219 222 rfl (128 : Int32) (by decide) ?_
                        refine o_istore C X d2_222 224 rfl #[.val (.ref a), .val (.int p0), .val (.int ((f i) &&& (255 : Int32))), .val (.int (3 : Int32)), .val (.int (((((f i) &&& (255 : Int32)) &&& (15 : Int32)) <<< ((6 : Int32) &&& 31)) ||| (((f (i + 1)) &&& (255 : Int32)) &&& (63 : Int32)))), .val (.int (128 : Int32)), .val (.int (191 : Int32)), .val (.int (2 : Int32)), .val (.int ((f (i + 2)) &&& (255 : Int32)))] rfl ?_
                        refine o_sipush C X d2_224 227 rfl (191 : Int32) (by decide) ?_
                        refine o_istore C X d2_227 229 rfl #[.val (.ref a), .val (.int p0), .val (.int ((f i) &&& (255 : Int32))), .val (.int (3 : Int32)), .val (.int (((((f i) &&& (255 : Int32)) &&& (15 : Int32)) <<< ((6 : Int32) &&& 31)) ||| (((f (i + 1)) &&& (255 : Int32)) &&& (63 : Int32)))), .val (.int (128 : Int32)), .val (.int (191 : Int32)), .val (.int (2 : Int32)), .val (.int ((f (i + 2)) &&& (255 : Int32)))] rfl ?_
                        refine o_iload C X d2_229 231 rfl rfl ?_
                        refine o_bipush C X d2_231 233 rfl (6 : Int32) (by decide) ?_
                        refine o_ishl C X d2_233 234 rfl ?_
                        refine o_iload C X d2_234 236 rfl rfl ?_
                        refine o_bipush C X d2_236 238 rfl (63 : Int32) (by decide) ?_
                        refine o_iand C X d2_238 239 rfl ?_
                        refine o_ior C X d2_239 240 rfl ?_
                        refine o_istore C X d2_240 242 rfl #[.val (.ref a), .val (.int p0), .val (.int ((f i) &&& (255 : Int32))), .val (.int (3 : Int32)), .val (.int (((((((f i) &&& (255 : Int32)) &&& (15 : Int32)) <<< ((6 : Int32) &&& 31)) ||| (((f (i + 1)) &&& (255 : Int32)) &&& (63 : Int32))) <<< ((6 : Int32) &&& 31)) ||| (((f (i + 2)) &&& (255 : Int32)) &&& (63 : Int32)))), .val (.int (128 : Int32)), .val (.int (191 : Int32)), .val (.int (2 : Int32)), .val (.int ((f (i + 2)) &&& (255 : Int32)))] rfl ?_
                        refine o_iinc C X (3 : Int32) d2_242 245 rfl #[.val (.ref a), .val (.int p0), .val (.int ((f i) &&& (255 : Int32))), .val (.int (3 : Int32)), .val (.int (((((((f i) &&& (255 : Int32)) &&& (15 : Int32)) <<< ((6 : Int32) &&& 31)) ||| (((f (i + 1)) &&& (255 : Int32)) &&& (63 : Int32))) <<< ((6 : Int32) &&& 31)) ||| (((f (i + 2)) &&& (255 : Int32)) &&& (63 : Int32)))), .val (.int (128 : Int32)), .val (.int (191 : Int32)), .val (.int (3 : Int32)), .val (.int ((f (i + 2)) &&& (255 : Int32)))] rfl (by decide) rfl ?_
                        refine o_goto C X d2_245 185 (by decide) (by decide) ?_
                        refine o_iload C X d2_185 187 rfl rfl ?_
                        refine o_iloadN C X d2_187 188 rfl rfl ?_
                        refine o_icmpY C X d2_188 248 (by decide) (by decide) (flt (by decide : ¬ ((3 : Int32) < (3 : Int32)))).2.1 ?_
                        refine o_iload C X d2_248 250 rfl rfl ?_
                        exact o_retI C X hret hlk d2_250 ⟨congrArg some (congrArg _ (by rw [FD]; simp only [if_neg q24, if_neg q25, if_pos q26, if_neg q27, if_neg q52, if_pos q58, if_neg q59, if_neg q60, if_neg q61, if_neg q62, if_neg q63])), rfl, e0⟩ (Nat.le_refl _) (Nat.le_refl _)
            · skip
              refine o_icmpY C X d2_95 104 (by decide) (by decide) (feq q58).2 ?_
              refine o_iload C X d2_104 106 rfl rfl ?_
              refine o_istore C X d2_106 108 rfl #[.val (.ref a), .val (.int p0), .val (.int ((f i) &&& (255 : Int32))), .val (.int (3 : Int32)), .val (.int (((f i) &&& (255 : Int32)) &&& (15 : Int32))), .val (.int (128 : Int32)), .val (.int (191 : Int32)), .unset, .unset] rfl ?_
              refine o_goto C X d2_108 172 (by decide) (by decide) ?_
              refine o_iloadN C X d2_172 173 rfl rfl ?_
              refine o_iloadN C X d2_173 174 rfl rfl ?_
              refine o_iadd C X d2_174 175 rfl ?_
              refine o_aloadN C X d2_175 176 rfl rfl rfl ?_
              refine o_arraylength C X hZ e0 A (5 : Int32) rfl d2_176 177 rfl ?_
              by_cases q64 : (5 : Int32) < (p0 + (3 : Int32))
              · skip
                refine o_icmpN C X d2_177 180 rfl (tlt q64).2.2.2 ?_
                refine o_iconst C X d2_180 181 rfl (-1 : Int32) (by decide) ?_
                exact o_retI C X hret hlk d2_181 ⟨congrArg some (congrArg _ (by rw [FD]; simp only [if_neg q24, if_neg q25, if_pos q26, if_neg q27, if_neg q52, if_neg q58, if_pos q64])), rfl, e0⟩ (Nat.le_refl _) (Nat.le_refl _)
              · skip
                refine o_icmpY C X d2_177 182 (by decide) (by decide) (flt q64).2.2.2 ?_
                refine o_iconst C X d2_182 183 rfl (1 : Int32) (by decide) ?_
                refine o_istore C X d2_183 185 rfl #[.val (.ref a), .val (.int p0), .val (.int ((f i) &&& (255 : Int32))), .val (.int (3 : Int32)), .val (.int (((f i) &&& (255 : Int32)) &&& (15 : Int32))), .val (.int (128 : Int32)), .val (.int (191 : Int32)), .val (.int (1 : Int32)), .unset] rfl ?_
                refine o_iload C X d2_185 187 rfl rfl ?_
                refine o_iloadN C X d2_187 188 rfl rfl ?_
                refine o_icmpN C X d2_188 191 rfl (tlt (by decide : (1 : Int32) < (3 : Int32))).2.1 ?_
                refine o_aloadN C X d2_191 192 rfl rfl rfl ?_
                refine o_iloadN C X d2_192 193 rfl rfl ?_
                refine o_iload C X d2_193 195 rfl rfl ?_
                refine o_iadd C X d2_195 196 rfl ?_
                refine o_baload C X hZ e0 A (i + 1) (own_add hp hi (n := (1 : Int32)) rfl (by decide)) (Nat.lt_of_lt_of_le (by omega) (own_in hp hi (n := (3 : Int32)) (k := 3) rfl (by decide) q64)) d2_196 197 rfl ?_
                refine o_sipush C X d2_197 200 rfl (255 : Int32) (by decide) ?_
                refine o_iand C X d2_200 201 rfl ?_
                refine o_istore C X d2_201 203 rfl #[.val (.ref a), .val (.int p0), .val (.int ((f i) &&& (255 : Int32))), .val (.int (3 : Int32)), .val (.int (((f i) &&& (255 : Int32)) &&& (15 : Int32))), .val (.int (128 : Int32)), .val (.int (191 : Int32)), .val (.int (1 : Int32)), .val (.int ((f (i + 1)) &&& (255 : Int32)))] rfl ?_
                refine o_iload C X d2_203 205 rfl rfl ?_
                refine o_iload C X d2_205 207 rfl rfl ?_
                by_cases q65 : ((f (i + 1)) &&& (255 : Int32)) < (128 : Int32)
                · skip
                  refine o_icmpY C X d2_207 217 (by decide) (by decide) (tlt q65).1 ?_
                  refine o_iconst C X d2_217 218 rfl (-1 : Int32) (by decide) ?_
                  exact o_retI C X hret hlk d2_218 ⟨congrArg some (congrArg _ (by rw [FD]; simp only [if_neg q24, if_neg q25, if_pos q26, if_neg q27, if_neg q52, if_neg q58, if_neg q64, if_pos q65])), rfl, e0⟩ (Nat.le_refl _) (Nat.le_refl _)
                · skip
                  refine o_icmpN C X d2_207 210 rfl (flt q65).1 ?_
                  refine o_iload C X d2_210 212 rfl rfl ?_
                  refine o_iload C X d2_212 214 rfl rfl ?_
                  by_cases q66 : (191 : Int32) < ((f (i + 1)) &&& (255 : Int32))
                  · skip
                    refine o_icmpN C X d2_214 217 rfl (tlt q66).2.2.2 ?_
                    refine o_iconst C X d2_217 218 rfl (-1 : Int32) (by decide) ?_
                    exact o_retI C X hret hlk d2_218 ⟨congrArg some (congrArg _ (by rw [FD]; simp only [if_neg q24, if_neg q25, if_pos q26, if_neg q27, if_neg q52, if_neg q58, if_neg q64, if_neg q65, if_pos q66])), rfl, e0⟩ (Nat.le_refl _) (Nat.le_refl _)
                  · skip
                    refine o_icmpY C X d2_214 219 (by decide) (by decide) (flt q66).2.2.2 ?_
                    refine o_sipush C X d2_219 222 rfl (128 : Int32) (by decide) ?_
                    refine o_istore C X d2_222 224 rfl #[.val (.ref a), .val (.int p0), .val (.int ((f i) &&& (255 : Int32))), .val (.int (3 : Int32)), .val (.int (((f i) &&& (255 : Int32)) &&& (15 : Int32))), .val (.int (128 : Int32)), .val (.int (191 : Int32)), .val (.int (1 : Int32)), .val (.int ((f (i + 1)) &&& (255 : Int32)))] rfl ?_
                    refine o_sipush C X d2_224 227 rfl (191 : Int32) (by decide) ?_
                    refine o_istore C X d2_227 229 rfl #[.val (.ref a), .val (.int p0), .val (.int ((f i) &&& (255 : Int32))), .val (.int (3 : Int32)), .val (.int (((f i) &&& (255 : Int32)) &&& (15 : Int32))), .val (.int (128 : Int32)), .val (.int (191 : Int32)), .val (.int (1 : Int32)), .val (.int ((f (i + 1)) &&& (255 : Int32)))] rfl ?_
                    refine o_iload C X d2_229 231 rfl rfl ?_
                    refine o_bipush C X d2_231 233 rfl (6 : Int32) (by decide) ?_
                    refine o_ishl C X d2_233 234 rfl ?_
                    refine o_iload C X d2_234 236 rfl rfl ?_
                    refine o_bipush C X d2_236 238 rfl (63 : Int32) (by decide) ?_
                    refine o_iand C X d2_238 239 rfl ?_
                    refine o_ior C X d2_239 240 rfl ?_
                    refine o_istore C X d2_240 242 rfl #[.val (.ref a), .val (.int p0), .val (.int ((f i) &&& (255 : Int32))), .val (.int (3 : Int32)), .val (.int (((((f i) &&& (255 : Int32)) &&& (15 : Int32)) <<< ((6 : Int32) &&& 31)) ||| (((f (i + 1)) &&& (255 : Int32)) &&& (63 : Int32)))), .val (.int (128 : Int32)), .val (.int (191 : Int32)), .val (.int (1 : Int32)), .val (.int ((f (i + 1)) &&& (255 : Int32)))] rfl ?_
                    refine o_iinc C X (2 : Int32) d2_242 245 rfl #[.val (.ref a), .val (.int p0), .val (.int ((f i) &&& (255 : Int32))), .val (.int (3 : Int32)), .val (.int (((((f i) &&& (255 : Int32)) &&& (15 : Int32)) <<< ((6 : Int32) &&& 31)) ||| (((f (i + 1)) &&& (255 : Int32)) &&& (63 : Int32)))), .val (.int (128 : Int32)), .val (.int (191 : Int32)), .val (.int (2 : Int32)), .val (.int ((f (i + 1)) &&& (255 : Int32)))] rfl (by decide) rfl ?_
                    refine o_goto C X d2_245 185 (by decide) (by decide) ?_
                    refine o_iload C X d2_185 187 rfl rfl ?_
                    refine o_iloadN C X d2_187 188 rfl rfl ?_
                    refine o_icmpN C X d2_188 191 rfl (tlt (by decide : (2 : Int32) < (3 : Int32))).2.1 ?_
                    refine o_aloadN C X d2_191 192 rfl rfl rfl ?_
                    refine o_iloadN C X d2_192 193 rfl rfl ?_
                    refine o_iload C X d2_193 195 rfl rfl ?_
                    refine o_iadd C X d2_195 196 rfl ?_
                    refine o_baload C X hZ e0 A (i + 2) (own_add hp hi (n := (2 : Int32)) rfl (by decide)) (Nat.lt_of_lt_of_le (by omega) (own_in hp hi (n := (3 : Int32)) (k := 3) rfl (by decide) q64)) d2_196 197 rfl ?_
                    refine o_sipush C X d2_197 200 rfl (255 : Int32) (by decide) ?_
                    refine o_iand C X d2_200 201 rfl ?_
                    refine o_istore C X d2_201 203 rfl #[.val (.ref a), .val (.int p0), .val (.int ((f i) &&& (255 : Int32))), .val (.int (3 : Int32)), .val (.int (((((f i) &&& (255 : Int32)) &&& (15 : Int32)) <<< ((6 : Int32) &&& 31)) ||| (((f (i + 1)) &&& (255 : Int32)) &&& (63 : Int32)))), .val (.int (128 : Int32)), .val (.int (191 : Int32)), .val (.int (2 : Int32)), .val (.int ((f (i + 2)) &&& (255 : Int32)))] rfl ?_
                    refine o_iload C X d2_203 205 rfl rfl ?_
                    refine o_iload C X d2_205 207 rfl rfl ?_
                    by_cases q67 : ((f (i + 2)) &&& (255 : Int32)) < (128 : Int32)
                    · skip
                      refine o_icmpY C X d2_207 217 (by decide) (by decide) (tlt q67).1 ?_
                      refine o_iconst C X d2_217 218 rfl (-1 : Int32) (by decide) ?_
                      exact o_retI C X hret hlk d2_218 ⟨congrArg some (congrArg _ (by rw [FD]; simp only [if_neg q24, if_neg q25, if_pos q26, if_neg q27, if_neg q52, if_neg q58, if_neg q64, if_neg q65, if_neg q66, if_pos q67])), rfl, e0⟩ (Nat.le_refl _) (Nat.le_refl _)
                    · skip
                      refine o_icmpN C X d2_207 210 rfl (flt q67).1 ?_
                      refine o_iload C X d2_210 212 rfl rfl ?_
                      refine o_iload C X d2_212 214 rfl rfl ?_
                      by_cases q68 : (191 : Int32) < ((f (i + 2)) &&& (255 : Int32))
                      · skip
                        refine o_icmpN C X d2_214 217 rfl (tlt q68).2.2.2 ?_
                        refine o_iconst C X d2_217 218 rfl (-1 : Int32) (by decide) ?_
                        exact o_retI C X hret hlk d2_218 ⟨congrArg some (congrArg _ (by rw [FD]; simp only [if_neg q24, if_neg q25, if_pos q26, if_neg q27, if_neg q52, if_neg q58, if_neg q64, if_neg q65, if_neg q66, if_neg q67, if_pos q68])), rfl, e0⟩ (Nat.le_refl _) (Nat.le_refl _)
                      · skip
                        refine o_icmpY C X d2_214 219 (by decide) (by decide) (flt q68).2.2.2 ?_
                        refine o_sipush C X d2_219 222 rfl (128 : Int32) (by decide) ?_
                        refine o_istore C X d2_222 224 rfl #[.val (.ref a), .val (.int p0), .val (.int ((f i) &&& (255 : Int32))), .val (.int (3 : Int32)), .val (.int (((((f i) &&& (255 : Int32)) &&& (15 : Int32)) <<< ((6 : Int32) &&& 31)) ||| (((f (i + 1)) &&& (255 : Int32)) &&& (63 : Int32)))), .val (.int (128 : Int32)), .val (.int (191 : Int32)), .val (.int (2 : Int32)), .val (.int ((f (i + 2)) &&& (255 : Int32)))] rfl ?_
                        refine o_sipush C X d2_224 227 rfl (191 : Int32) (by decide) ?_
                        refine o_istore C X d2_227 229 rfl #[.val (.ref a), .val (.int p0), .val (.int ((f i) &&& (255 : Int32))), .val (.int (3 : Int32)), .val (.int (((((f i) &&& (255 : Int32)) &&& (15 : Int32)) <<< ((6 : Int32) &&& 31)) ||| (((f (i + 1)) &&& (255 : Int32)) &&& (63 : Int32)))), .val (.int (128 : Int32)), .val (.int (191 : Int32)), .val (.int (2 : Int32)), .val (.int ((f (i + 2)) &&& (255 : Int32)))] rfl ?_
                        refine o_iload C X d2_229 231 rfl rfl ?_
                        refine o_bipush C X d2_231 233 rfl (6 : Int32) (by decide) ?_
                        refine o_ishl C X d2_233 234 rfl ?_
                        refine o_iload C X d2_234 236 rfl rfl ?_
                        refine o_bipush C X d2_236 238 rfl (63 : Int32) (by decide) ?_
                        refine o_iand C X d2_238 239 rfl ?_
                        refine o_ior C X d2_239 240 rfl ?_
                        refine o_istore C X d2_240 242 rfl #[.val (.ref a), .val (.int p0), .val (.int ((f i) &&& (255 : Int32))), .val (.int (3 : Int32)), .val (.int (((((((f i) &&& (255 : Int32)) &&& (15 : Int32)) <<< ((6 : Int32) &&& 31)) ||| (((f (i + 1)) &&& (255 : Int32)) &&& (63 : Int32))) <<< ((6 : Int32) &&& 31)) ||| (((f (i + 2)) &&& (255 : Int32)) &&& (63 : Int32)))), .val (.int (128 : Int32)), .val (.int (191 : Int32)), .val (.int (2 : Int32)), .val (.int ((f (i + 2)) &&& (255 : Int32)))] rfl ?_
                        refine o_iinc C X (3 : Int32) d2_242 245 rfl #[.val (.ref a), .val (.int p0), .val (.int ((f i) &&& (255 : Int32))), .val (.int (3 : Int32)), .val (.int (((((((f i) &&& (255 : Int32)) &&& (15 : Int32)) <<< ((6 : Int32) &&& 31)) ||| (((f (i + 1)) &&& (255 : Int32)) &&& (63 : Int32))) <<< ((6 : Int32) &&& 31)) ||| (((f (i + 2)) &&& (255 : Int32)) &&& (63 : Int32)))), .val (.int (128 : Int32)), .val (.int (191 : Int32)), .val (.int (3 : Int32)), .val (.int ((f (i + 2)) &&& (255 : Int32)))] rfl (by decide) rfl ?_
                        refine o_goto C X d2_245 185 (by decide) (by decide) ?_
                        refine o_iload C X d2_185 187 rfl rfl ?_
                        refine o_iloadN C X d2_187 188 rfl rfl ?_
                        refine o_icmpY C X d2_188 248 (by decide) (by decide) (flt (by decide : ¬ ((3 : Int32) < (3 : Int32)))).2.1 ?_
                        refine o_iload C X d2_248 250 rfl rfl ?_
                        exact o_retI C X hret hlk d2_250 ⟨congrArg some (congrArg _ (by rw [FD]; simp only [if_neg q24, if_neg q25, if_pos q26, if_neg q27, if_neg q52, if_neg q58, if_neg q64, if_neg q65, if_neg q66, if_neg q67, if_neg q68])), rfl, e0⟩ (Nat.le_refl _) (Nat.le_refl _)
      · skip
        refine o_icmpN C X d2_38 41 rfl (flt q26).2.2.1 ?_
        refine o_iconst C X d2_41 42 rfl (2 : Int32) (by decide) ?_
        refine o_istoreN C X d2_42 43 rfl #[.val (.ref a), .val (.int p0), .val (.int ((f i) &&& (255 : Int32))), .val (.int (2 : Int32)), .unset, .val (.int (128 : Int32)), .val (.int (191 : Int32)), .unset, .unset] rfl ?_
        refine o_iloadN C X d2_43 44 rfl rfl ?_
        refine o_bipush C X d2_44 46 rfl (31 : Int32) (by decide) ?_
        refine o_iand C X d2_46 47 rfl ?_
        refine o_istore C X d2_47 49 rfl #[.val (.ref a), .val (.int p0), .val (.int ((f i) &&& (255 : Int32))), .val (.int (2 : Int32)), .val (.int (((f i) &&& (255 : Int32)) &&& (31 : Int32))), .val (.int (128 : Int32)), .val (.int (191 : Int32)), .unset, .unset] rfl ?_
        refine o_goto C X d2_49 172 (by decide) (by decide) ?_
        refine o_iloadN C X d2_172 173 rfl rfl ?_
        refine o_iloadN C X d2_173 174 rfl rfl ?_
        refine o_iadd C X d2_174 175 rfl ?_
        refine o_aloadN C X d2_175 176 rfl rfl rfl ?_
        refine o_arraylength C X hZ e0 A (5 : Int32) rfl d2_176 177 rfl ?_
        by_cases q69 : (5 : Int32) < (p0 + (2 : Int32))
        · skip
          refine o_icmpN C X d2_177 180 rfl (tlt q69).2.2.2 ?_
          refine o_iconst C X d2_180 181 rfl (-1 : Int32) (by decide) ?_
          exact o_retI C X hret hlk d2_181 ⟨congrArg some (congrArg _ (by rw [FD]; simp only [if_neg q24, if_neg q25, if_neg q26, if_pos q69])), rfl, e0⟩ (Nat.le_refl _) (Nat.le_refl _)
        · skip
          refine o_icmpY C X d2_177 182 (by decide) (by decide) (flt q69).2.2.2 ?_
          refine o_iconst C X d2_182 183 rfl (1 : Int32) (by decide) ?_
          refine o_istore C X d2_183 185 rfl #[.val (.ref a), .val (.int p0), .val (.int ((f i) &&& (255 : Int32))), .val (.int (2 : Int32)), .val (.int (((f i) &&& (255 : Int32)) &&& (31 : Int32))), .val (.int (128 : Int32)), .val (.int (191 : Int32)), .val (.int (1 : Int32)), .unset] rfl ?_
          refine o_iload C X d2_185 187 rfl rfl ?_
          refine o_iloadN C X d2_187 188 rfl rfl ?_
          refine o_icmpN C X d2_188 191 rfl (tlt (by decide : (1 : Int32) < (2 : Int32))).2.1 ?_
          refine o_aloadN C X d2_191 192 rfl rfl rfl ?_
          refine o_iloadN C X d2_192 193 rfl rfl ?_
          refine o_iload C X d2_193 195 rfl rfl ?_
          refine o_iadd C X d2_195 196 rfl ?_
          refine o_baload C X hZ e0 A (i + 1) (own_add hp hi (n := (1 : Int32)) rfl (by decide)) (Nat.lt_of_lt_of_le (by omega) (own_in hp hi (n := (2 : Int32)) (k := 2) rfl (by decide) q69)) d2_196 197 rfl ?_
          refine o_sipush C X d2_197 200 rfl (255 : Int32) (by decide) ?_
          refine o_iand C X d2_200 201 rfl ?_
          refine o_istore C X d2_201 203 rfl #[.val (.ref a), .val (.int p0), .val (.int ((f i) &&& (255 : Int32))), .val (.int (2 : Int32)), .val (.int (((f i) &&& (255 : Int32)) &&& (31 : Int32))), .val (.int (128 : Int32)), .val (.int (191 : Int32)), .val (.int (1 : Int32)), .val (.int ((f (i + 1)) &&& (255 : Int32)))] rfl ?_
          refine o_iload C X d2_203 205 rfl rfl ?_
          refine o_iload C X d2_205 207 rfl rfl ?_
          by_cases q70 : ((f (i + 1)) &&& (255 : Int32)) < (128 : Int32)
          · skip
            refine o_icmpY C X d2_207 217 (by decide) (by decide) (tlt q70).1 ?_
            refine o_iconst C X d2_217 218 rfl (-1 : Int32) (by decide) ?_
            exact o_retI C X hret hlk d2_218 ⟨congrArg some (congrArg _ (by rw [FD]; simp only [if_neg q24, if_neg q25, if_neg q26, if_neg q69, if_pos q70])), rfl, e0⟩ (Nat.le_refl _) (Nat.le_refl _)
          · skip
            refine o_icmpN C X d2_207 210 rfl (flt q70).1 ?_
            refine o_iload C X d2_210 212 rfl rfl ?_
            refine o_iload C X d2_212 214 rfl rfl ?_
            by_cases q71 : (191 : Int32) < ((f (i + 1)) &&& (255 : Int32))
            · skip
              refine o_icmpN C X d2_214 217 rfl (tlt q71).2.2.2 ?_
              refine o_iconst C X d2_217 218 rfl (-1 : Int32) (by decide) ?_
              exact o_retI C X hret hlk d2_218 ⟨congrArg some (congrArg _ (by rw [FD]; simp only [if_neg q24, if_neg q25, if_neg q26, if_neg q69, if_neg q70, if_pos q71])), rfl, e0⟩ (Nat.le_refl _) (Nat.le_refl _)
            · skip
              refine o_icmpY C X d2_214 219 (by decide) (by decide) (flt q71).2.2.2 ?_
              refine o_sipush C X d2_219 222 rfl (128 : Int32) (by decide) ?_
              refine o_istore C X d2_222 224 rfl #[.val (.ref a), .val (.int p0), .val (.int ((f i) &&& (255 : Int32))), .val (.int (2 : Int32)), .val (.int (((f i) &&& (255 : Int32)) &&& (31 : Int32))), .val (.int (128 : Int32)), .val (.int (191 : Int32)), .val (.int (1 : Int32)), .val (.int ((f (i + 1)) &&& (255 : Int32)))] rfl ?_
              refine o_sipush C X d2_224 227 rfl (191 : Int32) (by decide) ?_
              refine o_istore C X d2_227 229 rfl #[.val (.ref a), .val (.int p0), .val (.int ((f i) &&& (255 : Int32))), .val (.int (2 : Int32)), .val (.int (((f i) &&& (255 : Int32)) &&& (31 : Int32))), .val (.int (128 : Int32)), .val (.int (191 : Int32)), .val (.int (1 : Int32)), .val (.int ((f (i + 1)) &&& (255 : Int32)))] rfl ?_
              refine o_iload C X d2_229 231 rfl rfl ?_
              refine o_bipush C X d2_231 233 rfl (6 : Int32) (by decide) ?_
              refine o_ishl C X d2_233 234 rfl ?_
              refine o_iload C X d2_234 236 rfl rfl ?_
              refine o_bipush C X d2_236 238 rfl (63 : Int32) (by decide) ?_
              refine o_iand C X d2_238 239 rfl ?_
              refine o_ior C X d2_239 240 rfl ?_
              refine o_istore C X d2_240 242 rfl #[.val (.ref a), .val (.int p0), .val (.int ((f i) &&& (255 : Int32))), .val (.int (2 : Int32)), .val (.int (((((f i) &&& (255 : Int32)) &&& (31 : Int32)) <<< ((6 : Int32) &&& 31)) ||| (((f (i + 1)) &&& (255 : Int32)) &&& (63 : Int32)))), .val (.int (128 : Int32)), .val (.int (191 : Int32)), .val (.int (1 : Int32)), .val (.int ((f (i + 1)) &&& (255 : Int32)))] rfl ?_
              refine o_iinc C X (2 : Int32) d2_242 245 rfl #[.val (.ref a), .val (.int p0), .val (.int ((f i) &&& (255 : Int32))), .val (.int (2 : Int32)), .val (.int (((((f i) &&& (255 : Int32)) &&& (31 : Int32)) <<< ((6 : Int32) &&& 31)) ||| (((f (i + 1)) &&& (255 : Int32)) &&& (63 : Int32)))), .val (.int (128 : Int32)), .val (.int (191 : Int32)), .val (.int (2 : Int32)), .val (.int ((f (i + 1)) &&& (255 : Int32)))] rfl (by decide) rfl ?_
              refine o_goto C X d2_245 185 (by decide) (by decide) ?_
              refine o_iload C X d2_185 187 rfl rfl ?_
              refine o_iloadN C X d2_187 188 rfl rfl ?_
              refine o_icmpY C X d2_188 248 (by decide) (by decide) (flt (by decide : ¬ ((2 : Int32) < (2 : Int32)))).2.1 ?_
              refine o_iload C X d2_248 250 rfl rfl ?_
              exact o_retI C X hret hlk d2_250 ⟨congrArg some (congrArg _ (by rw [FD]; simp only [if_neg q24, if_neg q25, if_neg q26, if_neg q69, if_neg q70, if_neg q71])), rfl, e0⟩ (Nat.le_refl _) (Nat.le_refl _)
theorem pd_0 : parseMethodDescriptor "([BI)I" = some ⟨[(.array .byte), .int], some .int⟩ := by decide +kernel
theorem own_rem (x : Int32) : ∃ i : Nat, i ≤ 4 ∧ ((x &&& (2147483647 : Int32)) % (5 : Int32)).toInt = i := by
  have hn := c_mask x 2147483647 31 (by decide) (by decide)
  have hr := (c_irem (x &&& 2147483647) 5 5 rfl).1 (by omega)
  exact ⟨(x.toInt % 2147483648 % 5).toNat, by omega, by omega⟩
theorem i_eq (z k : Int32) (n : Int) (h : k.toInt = n) : (z = k) = (z.toInt = n) := by
  rw [← h]; exact propext Int32.toInt_inj.symm
theorem own_of {v : Int32} {j : Nat} (h : v.toInt = j) : v = Int32.ofNat j := by
  apply Int32.toInt_inj.mp
  have := rng32 v
  rw [h, Int32.toInt_ofNat_of_lt (by omega)]
theorem own_bits : ∀ n : Fin 256, (((Int32.ofNat n.1) &&& 224 = 192) ↔ (192 ≤ n.1 ∧ n.1 ≤ 223)) ∧ (((Int32.ofNat n.1) &&& 240 = 224) ↔ (224 ≤ n.1 ∧ n.1 ≤ 239)) ∧ (((Int32.ofNat n.1) &&& 248 = 240) ↔ (240 ≤ n.1 ∧ n.1 ≤ 247)) ∧ (((Int32.ofNat n.1) &&& 192 = 128) ↔ (128 ≤ n.1 ∧ n.1 ≤ 191)) := by decide +kernel
theorem own_m (l : Int32) (h0 : 0 ≤ l.toInt) (h1 : l.toInt < 256) : ((l &&& 224 = 192) ↔ (192 ≤ l.toInt ∧ l.toInt ≤ 223)) ∧ ((l &&& 240 = 224) ↔ (224 ≤ l.toInt ∧ l.toInt ≤ 239)) ∧ ((l &&& 248 = 240) ↔ (240 ≤ l.toInt ∧ l.toInt ≤ 247)) ∧ ((l &&& 192 = 128) ↔ (128 ≤ l.toInt ∧ l.toInt ≤ 191)) := by
  obtain ⟨n, hn⟩ : ∃ n : Nat, l.toInt = n := ⟨l.toInt.toNat, by omega⟩
  have b := own_bits ⟨n, by omega⟩
  dsimp only at b
  rw [← own_of hn] at b
  obtain ⟨b1, b2, b3, b4⟩ := b
  rw [hn]
  exact ⟨b1.trans (by omega), b2.trans (by omega), b3.trans (by omega), b4.trans (by omega)⟩
theorem own_push (a c : Int32) (h0 : 0 ≤ a.toInt) (h1 : a.toInt < 1048576) : ((a <<< ((6 : Int32) &&& 31)) ||| (c &&& (63 : Int32))).toInt = a.toInt * 64 + c.toInt % 64 := by
  have s := c_ishl a 6 6 (by decide)
  have r := rng32 (a <<< ((6 : Int32) &&& 31))
  have m := c_mask c 63 6 (by decide) (by decide)
  have hs : (a <<< ((6 : Int32) &&& 31)).toInt = a.toInt * 64 := by omega
  have o := c_or (a <<< ((6 : Int32) &&& 31)) (c &&& 63) 6 (by decide) 64 rfl (by omega) (by omega) (by omega)
  have r2 := rng32 ((a <<< ((6 : Int32) &&& 31)) ||| (c &&& (63 : Int32)))
  omega
theorem cl2 {α : Type} (P L c1 v : Int) (m x : α) (h1 : 194 ≤ L) (h2 : L ≤ 223) (h3 : 0 ≤ c1) (h4 : c1 < 256) (e : v = (L % 32) * 64 + c1 % 64) :
    (if 5 < P then m else if c1 < 128 then m else if 191 < c1 then m else x) = (if 5 < P then m else if (128 ≤ c1 ∧ c1 ≤ 191) then (if v < 128 then m else if 1114111 < v then m else if v < 55296 then x else if 57343 < v then x else m) else m) := by
  by_cases p : 5 < P
  · rw [if_pos p, if_pos p]
  · rw [if_neg p, if_neg p]
    by_cases q : 128 ≤ c1 ∧ c1 ≤ 191
    · rw [if_neg (by omega), if_neg (by omega), if_pos q, if_neg (by omega), if_neg (by omega), if_pos (by omega)]
    · rw [if_neg q]
      by_cases r : c1 < 128
      · rw [if_pos r]
      · rw [if_neg r, if_pos (by omega)]
theorem cl3 {α : Type} (P L lo hi c1 c2 v : Int) (m x : α) (hL : (L = 224 ∧ lo = 160 ∧ hi = 191) ∨ (L = 237 ∧ lo = 128 ∧ hi = 159) ∨ (((225 ≤ L ∧ L ≤ 236) ∨ (238 ≤ L ∧ L ≤ 239)) ∧ lo = 128 ∧ hi = 191)) (h3 : 0 ≤ c1) (h4 : c1 < 256) (h5 : 0 ≤ c2) (h6 : c2 < 256) (e : v = ((L % 16) * 64 + c1 % 64) * 64 + c2 % 64) :
    (if 5 < P then m else if c1 < lo then m else if hi < c1 then m else if c2 < 128 then m else if 191 < c2 then m else x) = (if 5 < P then m else if (128 ≤ c1 ∧ c1 ≤ 191) then (if (128 ≤ c2 ∧ c2 ≤ 191) then (if v < 2048 then m else if 1114111 < v then m else if v < 55296 then x else if 57343 < v then x else m) else m) else m) := by
  by_cases p : 5 < P
  · rw [if_pos p, if_pos p]
  · rw [if_neg p, if_neg p]
    by_cases r : c1 < lo
    · rw [if_pos r]
      by_cases q : 128 ≤ c1 ∧ c1 ≤ 191
      · rw [if_pos q]
        by_cases q2 : 128 ≤ c2 ∧ c2 ≤ 191
        · rw [if_pos q2, if_pos (by omega)]
        · rw [if_neg q2]
      · rw [if_neg q]
    · rw [if_neg r]
      by_cases s : hi < c1
      · rw [if_pos s]
        by_cases q : 128 ≤ c1 ∧ c1 ≤ 191
        · rw [if_pos q]
          by_cases q2 : 128 ≤ c2 ∧ c2 ≤ 191
          · rw [if_pos q2, if_neg (by omega), if_neg (by omega), if_neg (by omega), if_neg (by omega)]
          · rw [if_neg q2]
        · rw [if_neg q]
      · rw [if_neg s, if_pos (show 128 ≤ c1 ∧ c1 ≤ 191 by omega)]
        by_cases q2 : 128 ≤ c2 ∧ c2 ≤ 191
        · rw [if_pos q2, if_neg (by omega), if_neg (by omega), if_neg (by omega), if_neg (by omega)]
          by_cases t : v < 55296
          · rw [if_pos t]
          · rw [if_neg t, if_pos (by omega)]
        · rw [if_neg q2]
          by_cases t : c2 < 128
          · rw [if_pos t]
          · rw [if_neg t, if_pos (by omega)]
theorem cl4 {α : Type} (P L lo hi c1 c2 c3 v : Int) (m x : α) (hL : (L = 240 ∧ lo = 144 ∧ hi = 191) ∨ (L = 244 ∧ lo = 128 ∧ hi = 143) ∨ ((241 ≤ L ∧ L ≤ 243) ∧ lo = 128 ∧ hi = 191)) (h3 : 0 ≤ c1) (h4 : c1 < 256) (h5 : 0 ≤ c2) (h6 : c2 < 256) (h7 : 0 ≤ c3) (h8 : c3 < 256) (e : v = (((L % 8) * 64 + c1 % 64) * 64 + c2 % 64) * 64 + c3 % 64) :
    (if 5 < P then m else if c1 < lo then m else if hi < c1 then m else if c2 < 128 then m else if 191 < c2 then m else if c3 < 128 then m else if 191 < c3 then m else x) = (if 5 < P then m else if (128 ≤ c1 ∧ c1 ≤ 191) then (if (128 ≤ c2 ∧ c2 ≤ 191) then (if (128 ≤ c3 ∧ c3 ≤ 191) then (if v < 65536 then m else if 1114111 < v then m else x) else m) else m) else m) := by
  by_cases p : 5 < P
  · rw [if_pos p, if_pos p]
  · rw [if_neg p, if_neg p]
    by_cases q : 128 ≤ c1 ∧ c1 ≤ 191
    · rw [if_pos q]
      by_cases q2 : 128 ≤ c2 ∧ c2 ≤ 191
      · rw [if_pos q2]
        by_cases q3 : 128 ≤ c3 ∧ c3 ≤ 191
        · rw [if_pos q3]
          by_cases r : c1 < lo
          · rw [if_pos r, if_pos (by omega)]
          · rw [if_neg r]
            by_cases s : hi < c1
            · rw [if_pos s, if_neg (by omega), if_pos (by omega)]
            · rw [if_neg s, if_neg (by omega), if_neg (by omega), if_neg (by omega), if_neg (by omega), if_neg (by omega), if_neg (by omega)]
        · rw [if_neg q3]
          by_cases t : c3 < 128
          · simp only [t, if_true, ite_self]
          · simp only [t, if_false, show 191 < c3 by omega, if_true, ite_self]
      · rw [if_neg q2]
        by_cases t : c2 < 128
        · simp only [t, if_true, ite_self]
        · simp only [t, if_false, show 191 < c2 by omega, if_true, ite_self]
    · rw [if_neg q]
      by_cases t : c1 < lo
      · rw [if_pos t]
      · rw [if_neg t, if_pos (by omega)]
theorem cl1 {α : Type} (L : Int) (h1 : 192 ≤ L) (P c1 v : Int) (m x : α) (h2 : L < 194) (h3 : 0 ≤ c1) (h4 : c1 < 256) (e : v = (L % 32) * 64 + c1 % 64) : m = (if 5 < P then m else if (128 ≤ c1 ∧ c1 ≤ 191) then (if v < 128 then m else if 1114111 < v then m else if v < 55296 then x else if 57343 < v then x else m) else m) := by
  rw [if_pos (show v < 128 by omega)]; simp only [ite_self]
theorem cl5 {α : Type} (L : Int) (h1 : 245 ≤ L) (P c1 c2 c3 v : Int) (m x : α) (h2 : L ≤ 247) (h3 : 0 ≤ c1) (h4 : c1 < 256) (h5 : 0 ≤ c2) (h6 : c2 < 256) (h7 : 0 ≤ c3) (h8 : c3 < 256) (e : v = (((L % 8) * 64 + c1 % 64) * 64 + c2 % 64) * 64 + c3 % 64) : m = (if 5 < P then m else if (128 ≤ c1 ∧ c1 ≤ 191) then (if (128 ≤ c2 ∧ c2 ≤ 191) then (if (128 ≤ c3 ∧ c3 ≤ 191) then (if v < 65536 then m else if 1114111 < v then m else x) else m) else m) else m) := by
  rw [if_neg (show ¬ v < 65536 by omega), if_pos (show 1114111 < v by omega)]; simp only [ite_self]
set_option maxRecDepth 65536 in
set_option maxHeartbeats 40000000 in
theorem own_same (f : Nat → Int32) (i : Nat) (p0 : Int32) (hp : p0.toInt = i) (hi : i ≤ 4) : FD f i p0 = FE f i p0 := by
  have hl := c_mask (f i) 255 8 (by decide) (by decide)
  have h1 := c_mask (f (i + 1)) 255 8 (by decide) (by decide)
  have h2 := c_mask (f (i + 2)) 255 8 (by decide) (by decide)
  have h3 := c_mask (f (i + 3)) 255 8 (by decide) (by decide)
  unfold FD FE
  generalize f i &&& (255 : Int32) = l at *
  generalize f (i + 1) &&& (255 : Int32) = c1 at *
  generalize f (i + 2) &&& (255 : Int32) = c2 at *
  generalize f (i + 3) &&& (255 : Int32) = c3 at *
  obtain ⟨m1, m2, m3, -⟩ := own_m l (by omega) (by omega)
  obtain ⟨-, -, -, k1⟩ := own_m c1 (by omega) (by omega)
  obtain ⟨-, -, -, k2⟩ := own_m c2 (by omega) (by omega)
  obtain ⟨-, -, -, k3⟩ := own_m c3 (by omega) (by omega)
  have a2 := c_mask l 31 5 (by decide) (by decide)
  have a3 := c_mask l 15 4 (by decide) (by decide)
  have a4 := c_mask l 7 3 (by decide) (by decide)
  have e2 := own_push (l &&& 31) c1 (by omega) (by omega)
  have e3 := own_push (l &&& 15) c1 (by omega) (by omega)
  have e3' := own_push _ c2 (by rw [e3]; omega) (by rw [e3]; omega)
  have e4 := own_push (l &&& 7) c1 (by omega) (by omega)
  have e4' := own_push _ c2 (by rw [e4]; omega) (by rw [e4]; omega)
  have e4'' := own_push _ c3 (by rw [e4']; omega) (by rw [e4']; omega)
  rw [e3] at e3'
  rw [e4] at e4'
  rw [e4'] at e4''
  generalize ((l &&& (31 : Int32)) <<< ((6 : Int32) &&& 31)) ||| (c1 &&& (63 : Int32)) = v2 at *
  generalize ((((l &&& (15 : Int32)) <<< ((6 : Int32) &&& 31)) ||| (c1 &&& (63 : Int32))) <<< ((6 : Int32) &&& 31)) ||| (c2 &&& (63 : Int32)) = v3 at *
  generalize ((((((l &&& (7 : Int32)) <<< ((6 : Int32) &&& 31)) ||| (c1 &&& (63 : Int32))) <<< ((6 : Int32) &&& 31)) ||| (c2 &&& (63 : Int32))) <<< ((6 : Int32) &&& 31)) ||| (c3 &&& (63 : Int32)) = v4 at *
  clear e3 e4 e4'
  rw [a2] at e2
  rw [a3] at e3'
  rw [a4] at e4''
  clear a2 a3 a4
  simp only [Int32.lt_iff_toInt_lt, i_eq l 224 224 rfl, i_eq l 237 237 rfl, i_eq l 240 240 rfl, i_eq l 244 244 rfl, m1, m2, m3, k1, k2, k3, show (5 : Int32).toInt = 5 from rfl, show (128 : Int32).toInt = 128 from rfl, show (143 : Int32).toInt = 143 from rfl, show (144 : Int32).toInt = 144 from rfl, show (159 : Int32).toInt = 159 from rfl, show (160 : Int32).toInt = 160 from rfl, show (191 : Int32).toInt = 191 from rfl, show (194 : Int32).toInt = 194 from rfl, show (223 : Int32).toInt = 223 from rfl, show (224 : Int32).toInt = 224 from rfl, show (237 : Int32).toInt = 237 from rfl, show (239 : Int32).toInt = 239 from rfl, show (240 : Int32).toInt = 240 from rfl, show (244 : Int32).toInt = 244 from rfl, show (2048 : Int32).toInt = 2048 from rfl, show (55296 : Int32).toInt = 55296 from rfl, show (57343 : Int32).toInt = 57343 from rfl, show (65536 : Int32).toInt = 65536 from rfl, show (1114111 : Int32).toInt = 1114111 from rfl]
  generalize (p0 + (2 : Int32)).toInt = P2
  generalize (p0 + (3 : Int32)).toInt = P3
  generalize (p0 + (4 : Int32)).toInt = P4
  have hL : (-1 ≤ l.toInt ∧ l.toInt ≤ 127) ∨ (128 ≤ l.toInt ∧ l.toInt ≤ 191) ∨ (192 ≤ l.toInt ∧ l.toInt ≤ 193) ∨ (194 ≤ l.toInt ∧ l.toInt ≤ 223) ∨ (224 ≤ l.toInt ∧ l.toInt ≤ 224) ∨ (225 ≤ l.toInt ∧ l.toInt ≤ 236) ∨ (237 ≤ l.toInt ∧ l.toInt ≤ 237) ∨ (238 ≤ l.toInt ∧ l.toInt ≤ 239) ∨ (240 ≤ l.toInt ∧ l.toInt ≤ 240) ∨ (241 ≤ l.toInt ∧ l.toInt ≤ 243) ∨ (244 ≤ l.toInt ∧ l.toInt ≤ 244) ∨ (245 ≤ l.toInt ∧ l.toInt ≤ 247) ∨ (248 ≤ l.toInt ∧ l.toInt ≤ 255) := by omega
  rcases hL with q | q | q | q | q | q | q | q | q | q | q | q | q
  · simp only [show l.toInt < 128 from by omega, show l.toInt < 194 from by omega, show ¬ (223 < l.toInt) from by omega, show ¬ (239 < l.toInt) from by omega, show ¬ (244 < l.toInt) from by omega, show ¬ (l.toInt = 240) from by omega, show ¬ (l.toInt = 244) from by omega, show ¬ (l.toInt = 224) from by omega, show ¬ (l.toInt = 237) from by omega, show ¬ (192 ≤ l.toInt ∧ l.toInt ≤ 223) from by omega, show ¬ (224 ≤ l.toInt ∧ l.toInt ≤ 239) from by omega, show ¬ (240 ≤ l.toInt ∧ l.toInt ≤ 247) from by omega, if_true, if_false, and_self, true_and]
  · simp only [show ¬ (l.toInt < 128) from by omega, show l.toInt < 194 from by omega, show ¬ (223 < l.toInt) from by omega, show ¬ (239 < l.toInt) from by omega, show ¬ (244 < l.toInt) from by omega, show ¬ (l.toInt = 240) from by omega, show ¬ (l.toInt = 244) from by omega, show ¬ (l.toInt = 224) from by omega, show ¬ (l.toInt = 237) from by omega, show ¬ (192 ≤ l.toInt ∧ l.toInt ≤ 223) from by omega, show ¬ (224 ≤ l.toInt ∧ l.toInt ≤ 239) from by omega, show ¬ (240 ≤ l.toInt ∧ l.toInt ≤ 247) from by omega, if_true, if_false, and_self, true_and]
  · simp only [show ¬ (l.toInt < 128) from by omega, show l.toInt < 194 from by omega, show ¬ (223 < l.toInt) from by omega, show ¬ (239 < l.toInt) from by omega, show ¬ (244 < l.toInt) from by omega, show ¬ (l.toInt = 240) from by omega, show ¬ (l.toInt = 244) from by omega, show ¬ (l.toInt = 224) from by omega, show ¬ (l.toInt = 237) from by omega, show 192 ≤ l.toInt ∧ l.toInt ≤ 223 from by omega, show ¬ (224 ≤ l.toInt ∧ l.toInt ≤ 239) from by omega, show ¬ (240 ≤ l.toInt ∧ l.toInt ≤ 247) from by omega, if_true, if_false, and_self, true_and]
    exact cl1 l.toInt (by omega) P2 c1.toInt v2.toInt _ _ (by omega) (by omega) (by omega) e2
  · simp only [show ¬ (l.toInt < 128) from by omega, show ¬ (l.toInt < 194) from by omega, show ¬ (223 < l.toInt) from by omega, show ¬ (239 < l.toInt) from by omega, show ¬ (244 < l.toInt) from by omega, show ¬ (l.toInt = 240) from by omega, show ¬ (l.toInt = 244) from by omega, show ¬ (l.toInt = 224) from by omega, show ¬ (l.toInt = 237) from by omega, show 192 ≤ l.toInt ∧ l.toInt ≤ 223 from by omega, show ¬ (224 ≤ l.toInt ∧ l.toInt ≤ 239) from by omega, show ¬ (240 ≤ l.toInt ∧ l.toInt ≤ 247) from by omega, if_true, if_false, and_self, true_and]
    exact cl2 P2 l.toInt c1.toInt v2.toInt _ _ (by omega) (by omega) (by omega) (by omega) e2
  · simp only [show ¬ (l.toInt < 128) from by omega, show ¬ (l.toInt < 194) from by omega, show 223 < l.toInt from by omega, show ¬ (239 < l.toInt) from by omega, show ¬ (244 < l.toInt) from by omega, show ¬ (l.toInt = 240) from by omega, show ¬ (l.toInt = 244) from by omega, (eq_true (by omega) : (l.toInt = 224) = True), show ¬ (l.toInt = 237) from by omega, show ¬ (192 ≤ l.toInt ∧ l.toInt ≤ 223) from by omega, show 224 ≤ l.toInt ∧ l.toInt ≤ 239 from by omega, show ¬ (240 ≤ l.toInt ∧ l.toInt ≤ 247) from by omega, if_true, if_false, and_self, true_and]
    exact cl3 P3 l.toInt 160 191 c1.toInt c2.toInt v3.toInt _ _ (by omega) (by omega) (by omega) (by omega) (by omega) e3'
  · simp only [show ¬ (l.toInt < 128) from by omega, show ¬ (l.toInt < 194) from by omega, show 223 < l.toInt from by omega, show ¬ (239 < l.toInt) from by omega, show ¬ (244 < l.toInt) from by omega, show ¬ (l.toInt = 240) from by omega, show ¬ (l.toInt = 244) from by omega, show ¬ (l.toInt = 224) from by omega, show ¬ (l.toInt = 237) from by omega, show ¬ (192 ≤ l.toInt ∧ l.toInt ≤ 223) from by omega, show 224 ≤ l.toInt ∧ l.toInt ≤ 239 from by omega, show ¬ (240 ≤ l.toInt ∧ l.toInt ≤ 247) from by omega, if_true, if_false, and_self, true_and]
    exact cl3 P3 l.toInt 128 191 c1.toInt c2.toInt v3.toInt _ _ (by omega) (by omega) (by omega) (by omega) (by omega) e3'
  · simp only [show ¬ (l.toInt < 128) from by omega, show ¬ (l.toInt < 194) from by omega, show 223 < l.toInt from by omega, show ¬ (239 < l.toInt) from by omega, show ¬ (244 < l.toInt) from by omega, show ¬ (l.toInt = 240) from by omega, show ¬ (l.toInt = 244) from by omega, show ¬ (l.toInt = 224) from by omega, (eq_true (by omega) : (l.toInt = 237) = True), show ¬ (192 ≤ l.toInt ∧ l.toInt ≤ 223) from by omega, show 224 ≤ l.toInt ∧ l.toInt ≤ 239 from by omega, show ¬ (240 ≤ l.toInt ∧ l.toInt ≤ 247) from by omega, if_true, if_false, and_self, true_and]
    exact cl3 P3 l.toInt 128 159 c1.toInt c2.toInt v3.toInt _ _ (by omega) (by omega) (by omega) (by omega) (by omega) e3'
  · simp only [show ¬ (l.toInt < 128) from by omega, show ¬ (l.toInt < 194) from by omega, show 223 < l.toInt from by omega, show ¬ (239 < l.toInt) from by omega, show ¬ (244 < l.toInt) from by omega, show ¬ (l.toInt = 240) from by omega, show ¬ (l.toInt = 244) from by omega, show ¬ (l.toInt = 224) from by omega, show ¬ (l.toInt = 237) from by omega, show ¬ (192 ≤ l.toInt ∧ l.toInt ≤ 223) from by omega, show 224 ≤ l.toInt ∧ l.toInt ≤ 239 from by omega, show ¬ (240 ≤ l.toInt ∧ l.toInt ≤ 247) from by omega, if_true, if_false, and_self, true_and]
    exact cl3 P3 l.toInt 128 191 c1.toInt c2.toInt v3.toInt _ _ (by omega) (by omega) (by omega) (by omega) (by omega) e3'
  · simp only [show ¬ (l.toInt < 128) from by omega, show ¬ (l.toInt < 194) from by omega, show 223 < l.toInt from by omega, show 239 < l.toInt from by omega, show ¬ (244 < l.toInt) from by omega, (eq_true (by omega) : (l.toInt = 240) = True), show ¬ (l.toInt = 244) from by omega, show ¬ (l.toInt = 224) from by omega, show ¬ (l.toInt = 237) from by omega, show ¬ (192 ≤ l.toInt ∧ l.toInt ≤ 223) from by omega, show ¬ (224 ≤ l.toInt ∧ l.toInt ≤ 239) from by omega, show 240 ≤ l.toInt ∧ l.toInt ≤ 247 from by omega, if_true, if_false, and_self, true_and]
    exact cl4 P4 l.toInt 144 191 c1.toInt c2.toInt c3.toInt v4.toInt _ _ (by omega) (by omega) (by omega) (by omega) (by omega) (by omega) (by omega) e4''
  · simp only [show ¬ (l.toInt < 128) from by omega, show ¬ (l.toInt < 194) from by omega, show 223 < l.toInt from by omega, show 239 < l.toInt from by omega, show ¬ (244 < l.toInt) from by omega, show ¬ (l.toInt = 240) from by omega, show ¬ (l.toInt = 244) from by omega, show ¬ (l.toInt = 224) from by omega, show ¬ (l.toInt = 237) from by omega, show ¬ (192 ≤ l.toInt ∧ l.toInt ≤ 223) from by omega, show ¬ (224 ≤ l.toInt ∧ l.toInt ≤ 239) from by omega, show 240 ≤ l.toInt ∧ l.toInt ≤ 247 from by omega, if_true, if_false, and_self, true_and]
    exact cl4 P4 l.toInt 128 191 c1.toInt c2.toInt c3.toInt v4.toInt _ _ (by omega) (by omega) (by omega) (by omega) (by omega) (by omega) (by omega) e4''
  · simp only [show ¬ (l.toInt < 128) from by omega, show ¬ (l.toInt < 194) from by omega, show 223 < l.toInt from by omega, show 239 < l.toInt from by omega, show ¬ (244 < l.toInt) from by omega, show ¬ (l.toInt = 240) from by omega, (eq_true (by omega) : (l.toInt = 244) = True), show ¬ (l.toInt = 224) from by omega, show ¬ (l.toInt = 237) from by omega, show ¬ (192 ≤ l.toInt ∧ l.toInt ≤ 223) from by omega, show ¬ (224 ≤ l.toInt ∧ l.toInt ≤ 239) from by omega, show 240 ≤ l.toInt ∧ l.toInt ≤ 247 from by omega, if_true, if_false, and_self, true_and]
    exact cl4 P4 l.toInt 128 143 c1.toInt c2.toInt c3.toInt v4.toInt _ _ (by omega) (by omega) (by omega) (by omega) (by omega) (by omega) (by omega) e4''
  · simp only [show ¬ (l.toInt < 128) from by omega, show ¬ (l.toInt < 194) from by omega, show 223 < l.toInt from by omega, show 239 < l.toInt from by omega, show 244 < l.toInt from by omega, show ¬ (l.toInt = 240) from by omega, show ¬ (l.toInt = 244) from by omega, show ¬ (l.toInt = 224) from by omega, show ¬ (l.toInt = 237) from by omega, show ¬ (192 ≤ l.toInt ∧ l.toInt ≤ 223) from by omega, show ¬ (224 ≤ l.toInt ∧ l.toInt ≤ 239) from by omega, show 240 ≤ l.toInt ∧ l.toInt ≤ 247 from by omega, if_true, if_false, and_self, true_and]
    exact cl5 l.toInt (by omega) P4 c1.toInt c2.toInt c3.toInt v4.toInt _ _ (by omega) (by omega) (by omega) (by omega) (by omega) (by omega) (by omega) e4''
  · simp only [show ¬ (l.toInt < 128) from by omega, show ¬ (l.toInt < 194) from by omega, show 223 < l.toInt from by omega, show 239 < l.toInt from by omega, show 244 < l.toInt from by omega, show ¬ (l.toInt = 240) from by omega, show ¬ (l.toInt = 244) from by omega, show ¬ (l.toInt = 224) from by omega, show ¬ (l.toInt = 237) from by omega, show ¬ (192 ≤ l.toInt ∧ l.toInt ≤ 223) from by omega, show ¬ (224 ≤ l.toInt ∧ l.toInt ≤ 239) from by omega, show ¬ (240 ≤ l.toInt ∧ l.toInt ≤ 247) from by omega, if_true, if_false]
theorem pn_0 : plainFor x = true := by first | exact plainFor_of_name (by first | (simp [plainName, overriddenIn]; done) | decide +kernel) | decide +kernel
theorem ef_0 (m : MethodId) (x0 : Int64) (x1 : Int32) : entryFrame m #[(.long x0), (.int x1)] maxLocals = (mkF m 0 #[.val (.long x0), .second, .val (.int x1), .unset, .unset, .unset, .unset] []) := by first | (simp [entryFrame, mkF, argsToLocals, Value.category, maxLocals]; done) | rfl
set_option maxRecDepth 65536 in
set_option maxHeartbeats 40000000 in
theorem rm0 (l : Launch) (Z : State) (a0 : Array Value) (hw : ∀ d ∈ tables_1, d.before a0 Z = true) (x0 : Int64) (x1 : Int32) (h0 : Heap) (n0 : Nat) (Z0 : n0 ≤ h0.size) : Con l Z x code maxLocals ret room_1 16 128 tables_1 #[(.long x0), (.int x1)] h0 (fun v _ L => v = some (.int 1) ∧ Fr n0 L) := by
  refine Con.of pn_0 ?_
  intro p e s m below meth c T C hZ hml hown hret hnm hlk X e0
  have N0 := Fr.nil n0
  rw [ef_0]
  refine o_iconst C X at_0 1 rfl (5 : Int32) (by decide) ?_
  refine o_newarrayB C X hZ (hw _ (List.mem_of_getElem? (i := 0) rfl)) e0 (5) (by decide) (5) (by decide) (by decide) (by decide) (by decide) at_1 3 rfl ?_
  intro T h_1 a g_a X e_1 E_1 Aa_1
  have ge_a : n0 ≤ a := by rw [g_a]; exact Z0
  have Z_1 : n0 ≤ h_1.size := Nat.le_trans Z0 E_1.1
  refine o_astoreN C X at_3 4 rfl rfl #[.val (.long x0), .second, .val (.int x1), .val (.ref a), .unset, .unset, .unset] rfl ?_
  refine o_aloadN C X at_4 5 rfl rfl rfl ?_
  refine o_iconst C X at_5 6 rfl (0 : Int32) (by decide) ?_
  refine o_lloadN C X at_6 7 rfl rfl ?_
  refine o_l2i C X at_7 8 rfl ?_
  refine o_i2b C X at_8 9 rfl ?_
  refine o_bastore C X hZ e_1 Aa_1 (0) (by decide) (by decide) at_9 10 rfl N0 ge_a ?_
  intro T h_2 locs_2 X e_2 W_2 N0 Aa_2
  have Z_2 : n0 ≤ h_2.size := by rw [W_2.size]; exact Z_1
  refine o_aloadN C X at_10 11 rfl rfl rfl ?_
  refine o_iconst C X at_11 12 rfl (1 : Int32) (by decide) ?_
  refine o_lloadN C X at_12 13 rfl rfl ?_
  refine o_bipush C X at_13 15 rfl (8 : Int32) (by decide) ?_
  refine o_lushr C X at_15 16 rfl ?_
  refine o_l2i C X at_16 17 rfl ?_
  refine o_i2b C X at_17 18 rfl ?_
  refine o_bastore C X hZ e_2 Aa_2 (1) (by decide) (by decide) at_18 19 rfl N0 ge_a ?_
  intro T h_3 locs_3 X e_3 W_3 N0 Aa_3
  have Z_3 : n0 ≤ h_3.size := by rw [W_3.size]; exact Z_2
  refine o_aloadN C X at_19 20 rfl rfl rfl ?_
  refine o_iconst C X at_20 21 rfl (2 : Int32) (by decide) ?_
  refine o_lloadN C X at_21 22 rfl rfl ?_
  refine o_bipush C X at_22 24 rfl (16 : Int32) (by decide) ?_
  refine o_lushr C X at_24 25 rfl ?_
  refine o_l2i C X at_25 26 rfl ?_
  refine o_i2b C X at_26 27 rfl ?_
  refine o_bastore C X hZ e_3 Aa_3 (2) (by decide) (by decide) at_27 28 rfl N0 ge_a ?_
  intro T h_4 locs_4 X e_4 W_4 N0 Aa_4
  have Z_4 : n0 ≤ h_4.size := by rw [W_4.size]; exact Z_3
  refine o_aloadN C X at_28 29 rfl rfl rfl ?_
  refine o_iconst C X at_29 30 rfl (3 : Int32) (by decide) ?_
  refine o_lloadN C X at_30 31 rfl rfl ?_
  refine o_bipush C X at_31 33 rfl (24 : Int32) (by decide) ?_
  refine o_lushr C X at_33 34 rfl ?_
  refine o_l2i C X at_34 35 rfl ?_
  refine o_i2b C X at_35 36 rfl ?_
  refine o_bastore C X hZ e_4 Aa_4 (3) (by decide) (by decide) at_36 37 rfl N0 ge_a ?_
  intro T h_5 locs_5 X e_5 W_5 N0 Aa_5
  have Z_5 : n0 ≤ h_5.size := by rw [W_5.size]; exact Z_4
  refine o_aloadN C X at_37 38 rfl rfl rfl ?_
  refine o_iconst C X at_38 39 rfl (4 : Int32) (by decide) ?_
  refine o_lloadN C X at_39 40 rfl rfl ?_
  refine o_bipush C X at_40 42 rfl (32 : Int32) (by decide) ?_
  refine o_lushr C X at_42 43 rfl ?_
  refine o_l2i C X at_43 44 rfl ?_
  refine o_i2b C X at_44 45 rfl ?_
  refine o_bastore C X hZ e_5 Aa_5 (4) (by decide) (by decide) at_45 46 rfl N0 ge_a ?_
  intro T h_6 locs_6 X e_6 W_6 N0 Aa_6
  have Z_6 : n0 ≤ h_6.size := by rw [W_6.size]; exact Z_5
  refine o_iloadN C X at_46 47 rfl rfl ?_
  refine o_ldcI C X hZ hown (hw _ (List.mem_of_getElem? (i := 1) rfl)) at_47 49 rfl ?_
  refine o_iand C X at_49 50 rfl ?_
  refine o_iconst C X at_50 51 rfl (5 : Int32) (by decide) ?_
  refine o_irem C X at_51 52 rfl (by decide) ?_
  refine o_istore C X at_52 54 rfl #[.val (.long x0), .second, .val (.int x1), .val (.ref a), .val (.int ((x1 &&& (2147483647 : Int32)) % (5 : Int32))), .unset, .unset] rfl ?_
  refine o_aloadN C X at_54 55 rfl rfl rfl ?_
  refine o_iload C X at_55 57 rfl rfl ?_
  obtain ⟨f, Aa_7⟩ : ∃ f, AI Z h_6 a .byte 5 f := ⟨_, Aa_6⟩
  obtain ⟨i, hi, hp⟩ := own_rem x1
  generalize hp0 : ((x1 &&& (2147483647 : Int32)) % (5 : Int32)) = p0
  rw [hp0] at hp
  refine o_callP C X hZ (by rw [hml]; rfl) (own := "com/example/scanloom/scanloom/lexer/Utf8DecodePinLaw") (y := (⟨"com/example/scanloom/scanloom/lexer/Utf8DecodePinLaw", "expected", "([BI)I"⟩ : MethodName)) (rf := 0) (rl := 0) hown (hw _ (List.mem_of_getElem? (i := 2) rfl)) (hw _ (List.mem_of_getElem? (i := 3) rfl)) (hw _ (List.mem_of_getElem? (i := 4) rfl)) (hw _ (List.mem_of_getElem? (i := 5) rfl)) (by decide) (asL := [(.ref a), (.int p0)]) (rm1 l Z a0 hw a f i p0 h_6 hp hi Aa_7) e_6 pd_0 rfl rfl 0 (Nat.le_of_eq rfl) (by decide) (by decide) (by decide) (by decide) at_57 60 rfl ?_
  intro T X e_6
  refine o_istore C X at_60 62 rfl #[.val (.long x0), .second, .val (.int x1), .val (.ref a), .val (.int p0), .val (.int (FE f i p0)), .unset] rfl ?_
  refine o_aloadN C X at_62 63 rfl rfl rfl ?_
  refine o_iload C X at_63 65 rfl rfl ?_
  refine o_callP C X hZ (by rw [hml]; rfl) (own := "com/example/scanloom/scanloom/lexer/Utf8DecodePinLaw") (y := (⟨"com/example/scanloom/scanloom/lexer/Utf8", "decode", "([BI)I"⟩ : MethodName)) (rf := 0) (rl := 0) hown (hw _ (List.mem_of_getElem? (i := 6) rfl)) (hw _ (List.mem_of_getElem? (i := 7) rfl)) (hw _ (List.mem_of_getElem? (i := 8) rfl)) (hw _ (List.mem_of_getElem? (i := 9) rfl)) (by decide) (asL := [(.ref a), (.int p0)]) (rm2 l Z a0 hw a f i p0 h_6 hp hi Aa_7) e_6 pd_0 rfl rfl 0 (Nat.le_of_eq rfl) (by decide) (by decide) (by decide) (by decide) at_65 68 rfl ?_
  intro T X e_6
  refine o_istore C X at_68 70 rfl #[.val (.long x0), .second, .val (.int x1), .val (.ref a), .val (.int p0), .val (.int (FE f i p0)), .val (.int (FD f i p0))] rfl ?_
  refine o_iload C X at_70 72 rfl rfl ?_
  refine o_iload C X at_72 74 rfl rfl ?_
  refine o_icmpN C X at_74 77 rfl (teq (own_same f i p0 hp hi)).2 ?_
  refine o_iconst C X at_77 78 rfl (1 : Int32) (by decide) ?_
  refine o_goto C X at_78 82 (by decide) (by decide) ?_
  exact o_retN C X hret (by simp) hlk at_82 ⟨congrArg some (congrArg _ (rfl)), N0⟩ (by decide) (by decide)
set_option maxRecDepth 65536 in
set_option maxHeartbeats 40000000 in
theorem comes_1 {Post : Tables → Env → Array Value → State → Outcome → State → Prop} (hpost : ∀ tb e args s v u, (limb_1_1.after args s (.returned v) u = true ∧ limb_1_2.after args s (.returned v) u = true ∧ True) → FrameEnd s (.returned v) u (Jvm.fieldLocs frame_1_writes args s ++ Jvm.arrayLocs frame_1_arrays args s ++ Jvm.staticLocs frame_1_statics s) 16 128 → Post tb e args s (.returned v) u) :
    ArmFor flags0 classFile x code maxLocals ret World_1 tables_1 room_1 Calls_1 rest_1 Pre_1 Post := by
  intro l hfl _ _ p e ha hc hk s m args below hf hA hF happ hP
  obtain ⟨hcalls, hrest, hpre⟩ := hP
  obtain ⟨-, -, -, hnamed, -, -, -, hat⟩ := (Spec.applies_iff hf).mp happ
  obtain ⟨hg, hn⟩ := and_e (Cond.before_iff.mp (show (Jvm.Cond.and given_1 narrow_1).before args s = true from hpre))
  obtain ⟨g0, g1⟩ := and_e hg
  obtain ⟨w0, w1, rfl⟩ : ∃ w0 w1 : Value, args = #[w0, w1] := by
    have hs : args.size = 2 := by simpa [Cond.value, given_1] using g0
    obtain ⟨L⟩ := args
    match L, hs with
    | [w0, w1], _ => exact ⟨w0, w1, rfl⟩
  have hw := fun d (hd : d ∈ tables_1) => atoms_spec (ws := Jvm.Cond.code x code maxLocals ret :: tables_1) hat d (List.mem_cons_of_mem _ hd)
  have hfit : Fit s := fun {y c} hc i hi => by
    obtain ⟨ha, rfl⟩ := Array.getElem?_eq_some_iff.mp hc
    have q := List.all_eq_true.mp ((Array.all_eq_true_iff_forall_mem.mp hF) _ (Array.getElem_mem ha)) i (List.mem_range.mpr hi)
    simpa [Array.getElem?_eq_getElem hi] using q
  obtain ⟨f0, g1⟩ := and_e g1
  obtain ⟨i0, e0⟩ := isL_v f0
  obtain rfl : w0 = (.long i0) := Option.some.inj e0
  have f1 := g1
  obtain ⟨i1, e1⟩ := is_v f1
  obtain rfl : w1 = (.int i1) := Option.some.inj e1
  obtain ⟨n, o, h1, h2, h3, _, L, rfl, ⟨rfl, N⟩, hq⟩ := rm0 l s _ hw i0 i1 s.heap s.heap.size (Nat.le_refl _) p e ha hc hk s m _ below hf ((Spec.applies_iff_loose hf).mp happ).1 ⟨rfl, State.Warmed39.refl s, rfl⟩ trivial
  exact ⟨n, _, h1, h2, h3, hpost _ _ _ _ _ _ ⟨Cond.after_iff.mpr rfl, Cond.after_iff.mpr (eq_i res_at (Term.int_eval (1)) rfl), trivial⟩ ⟨hq.1, hq.2.1, (hq.2.2.sift fun y hy => Or.inr (N y hy)).mono (by decide) (by decide)⟩⟩
theorem main_1_1 : Claimed_1_1 := comes_1 fun _ _ _ _ _ _ h hF => ⟨h.1, hF⟩
theorem main_1_2 : Claimed_1_2 := comes_1 fun _ _ _ _ _ _ h hF => ⟨h.2.1, hF⟩
end Jvm.Pilot.@@N@@
namespace Jvm.Pilot.@@N@@
open Jvm Jvm.ClassFile Sem Op Lib Jvm.Free Jvm.Stand Jvm.Pilot.@@N@@.Jvm.D
/-! MADE BY PROGRAM (witnessworld.py) out of the Statement's table words and the real class files: 9 classes; the members and pool entries that the words name. The judged class is class 1, her method 1. -/
namespace start1
open Jvm.ClassFile
def u (s : String) : CpInfo := .utf8 (stringToUtf16 s)
/-- a pool by its gaps: so many unusable entries, then the entry; so many at the end -/
def gap : Nat → List CpInfo → List CpInfo
  | 0, r => r
  | n + 1, r => .unusable :: gap n r
def poolList (es : List (Nat × CpInfo)) (last : Nat) : List CpInfo := es.foldr (fun e r => gap e.1 (e.2 :: r)) (gap last [])
def pool (es : List (Nat × CpInfo)) (last : Nat) : Array CpInfo := ⟨poolList es last⟩
def fileOf (pool : Array CpInfo) (this : Nat) (attrs : Array Attribute := #[]) (ms : Array MethodInfo := #[]) (fl : Nat := 33) (sup : Nat := 0) (ifs : Array Nat := #[]) (fds : Array FieldInfo := #[]) : ClassFile where
  minorVersion := 0
  majorVersion := 65
  constantPool := pool
  accessFlags := fl
  thisClass := this
  superClass := sup
  interfaces := ifs
  fields := fds
  methods := ms
  attributes := attrs
def plain (name : String) (sup : Option ClassId) : Class where
  name := name
  kind := .ordinary
  loader := none
  accessFlags := 33
  super := sup
  interfaces := #[]
  cf := none
  fields := #[]
  methods := #[]
  instanceTypes := #[]
  staticTypes := #[]
  resolved := #[]
  callSites := []
  init := .initialized
  statics := none
  mirror := none

def pool0 : Array CpInfo := pool [(5, u "<init>"), (0, u "()V"), (1, .class_ 10), (1, u "java/lang/Object")] 113

def k0m0 : Method := { name := "<init>", desc := "()V", sig := { parameters := [], returnType := none }, accessFlags := 1, code := none }
/-- java/lang/Object -/
def k0 : Class := { plain "java/lang/Object" none with
  accessFlags := 33
  interfaces := #[]
  cf := some (fileOf pool0 8 #[] #[{ accessFlags := 1, nameIndex := 5, descriptorIndex := 6, attributes := #[] }] 33 0 #[] #[])
  fields := #[]
  methods := #[k0m0]
  instanceTypes := #[]
  staticTypes := #[]
  resolved := Array.replicate 124 none
  statics := none }

def pool1 : Array CpInfo := pool [(2, .class_ 4), (1, u "java/lang/Object"), (0, u "<init>"), (0, u "()V"), (0, .integer 2147483647), (0, .methodref 9 10), (0, .class_ 11), (0, .nameAndType 12 13), (0, u "com/example/scanloom/scanloom/lexer/Utf8DecodePinLaw"), (0, u "expected"), (0, u "([BI)I"), (0, .methodref 15 16), (0, .class_ 17), (0, .nameAndType 18 13), (0, u "com/example/scanloom/scanloom/lexer/Utf8"), (0, u "decode"), (0, .integer 65536), (0, .integer 1114111), (0, .integer 55296), (0, .integer 57343), (2, u "law"), (0, u "(JI)Z")] 5

def k1m0 : Method := { name := "<init>", desc := "()V", sig := { parameters := [], returnType := none }, accessFlags := 2, code := none }
def k1c1 : Code := { maxStack := 5, maxLocals := 7, code := code, exceptionTable := #[], attributes := #[] }
def k1m1 : Method := { name := "law", desc := "(JI)Z", sig := { parameters := [.long, .int], returnType := some .boolean }, accessFlags := 9, code := some k1c1 }
def k1c2 : Code := { maxStack := 3, maxLocals := 7, code := method_3_code, exceptionTable := #[], attributes := #[] }
def k1m2 : Method := { name := "expected", desc := "([BI)I", sig := { parameters := [(.array .byte), .int], returnType := some .int }, accessFlags := 10, code := some k1c2 }
/-- com/example/scanloom/scanloom/lexer/Utf8DecodePinLaw -/
def k1 : Class := { plain "com/example/scanloom/scanloom/lexer/Utf8DecodePinLaw" (some 0) with
  accessFlags := 49
  interfaces := #[]
  cf := some (fileOf pool1 9 #[] #[{ accessFlags := 2, nameIndex := 5, descriptorIndex := 6, attributes := #[] }, { accessFlags := 9, nameIndex := 25, descriptorIndex := 26, attributes := #[] }, { accessFlags := 10, nameIndex := 12, descriptorIndex := 13, attributes := #[] }] 49 2 #[] #[])
  fields := #[]
  methods := #[k1m0, k1m1, k1m2]
  instanceTypes := #[]
  staticTypes := #[]
  resolved := Array.replicate 32 none
  statics := none }

def pool2 : Array CpInfo := pool [(2, .class_ 4), (1, u "java/lang/Object"), (0, u "<init>"), (0, u "()V"), (0, .class_ 8), (0, u "com/example/scanloom/scanloom/lexer/Utf8"), (1, u "INVALID"), (0, u "I"), (4, u "decode"), (0, u "([BI)I")] 7

def k2m0 : Method := { name := "<init>", desc := "()V", sig := { parameters := [], returnType := none }, accessFlags := 2, code := none }
def k2c1 : Code := { maxStack := 3, maxLocals := 9, code := prog_52_method_2_code, exceptionTable := #[], attributes := #[] }
def k2m1 : Method := { name := "decode", desc := "([BI)I", sig := { parameters := [(.array .byte), .int], returnType := some .int }, accessFlags := 8, code := some k2c1 }
/-- com/example/scanloom/scanloom/lexer/Utf8 -/
def k2 : Class := { plain "com/example/scanloom/scanloom/lexer/Utf8" (some 0) with
  accessFlags := 48
  interfaces := #[]
  cf := some (fileOf pool2 7 #[] #[{ accessFlags := 2, nameIndex := 5, descriptorIndex := 6, attributes := #[] }, { accessFlags := 8, nameIndex := 16, descriptorIndex := 17, attributes := #[] }] 48 2 #[] #[{ accessFlags := 24, nameIndex := 10, descriptorIndex := 11, attributes := #[] }])
  fields := #[{ name := "INVALID", type := .int, accessFlags := 24, slot := 0, constantValue := 0 }]
  methods := #[k2m0, k2m1]
  instanceTypes := #[]
  staticTypes := #[.int]
  resolved := Array.replicate 25 none
  statics := none }

def pool3 : Array CpInfo := pool [(1, u "java/lang/Cloneable"), (0, .class_ 1), (0, u "java/lang/Object"), (0, .class_ 3)] 3

/-- java/lang/Cloneable -/
def k3 : Class := { plain "java/lang/Cloneable" (some 0) with
  accessFlags := 1537
  interfaces := #[]
  cf := some (fileOf pool3 2 #[] #[] 1537 4 #[] #[])
  fields := #[]
  methods := #[]
  instanceTypes := #[]
  staticTypes := #[]
  resolved := Array.replicate 8 none
  statics := none }

def pool4 : Array CpInfo := pool [(1, u "java/io/Serializable"), (0, .class_ 1), (0, u "java/lang/Object"), (0, .class_ 3)] 3

/-- java/io/Serializable -/
def k4 : Class := { plain "java/io/Serializable" (some 0) with
  accessFlags := 1537
  interfaces := #[]
  cf := some (fileOf pool4 2 #[] #[] 1537 4 #[] #[])
  fields := #[]
  methods := #[]
  instanceTypes := #[]
  staticTypes := #[]
  resolved := Array.replicate 8 none
  statics := none }

/-- the primitive byte -/
def k5 : Class := { plain "byte" none with kind := .primitive 'B', accessFlags := 0x411 }
/-- [B -/
def k6 : Class := { plain "[B" (some 0) with kind := .array 5 .byte, interfaces := #[3, 4], accessFlags := 1041 }

/-- the primitive int -/
def k7 : Class := { plain "int" none with kind := .primitive 'I', accessFlags := 0x411 }
/-- [I -/
def k8 : Class := { plain "[I" (some 0) with kind := .array 7 .int, interfaces := #[3, 4], accessFlags := 1041 }

def heap : Heap := #[]
def classes : Array Class := #[k0, k1, k2, k3, k4, k5, k6, k7, k8]
def interned : List (Array UInt16 × Addr) := []
def slotsUsed : Nat := 0
def theMethod : MethodId := ⟨1, 1⟩
def args0 : Array Value := #[.long 3, .int 5]
def aboutOver (below : List Frame) : State where
  vm := { classes := classes, interned := interned.toArray }
  heap := heap
  slotsUsed := slotsUsed
  threads := #[{ frames := .invoking theMethod args0 :: below }]
def below0 : List Frame := [.native { method := ⟨0, 0⟩, args := #[] }]
def about1 : State := aboutOver below0
def p0 : Program := .bare "" "" ""
def e0 : Env := launch0.env 0 0 0
theorem w_frames : about1.frames = Frame.invoking theMethod args0 :: below0 := rfl
set_option maxRecDepth 65536 in
theorem w_args : argsFit about1.vm theMethod args0 = true := by decide +kernel
set_option maxRecDepth 65536 in
theorem w_heap : heapFits about1 = true := by decide +kernel
set_option maxRecDepth 65536 in
theorem w_runnable : about1.curStatus? = some .runnable := by decide +kernel
set_option maxRecDepth 65536 in
theorem w_alone : about1.alone = true := by decide +kernel
set_option maxRecDepth 65536 in
theorem w_named : about1.methodNamed? x = some theMethod := by decide +kernel
set_option maxRecDepth 65536 in
theorem w_hears : about1.hears theMethod below0 = true := by decide +kernel
set_option maxRecDepth 65536 in
theorem w_ripe : about1.ripe theMethod args0 below0 = true := by decide +kernel
theorem w_running : about1.status = .running := rfl
set_option maxRecDepth 65536 in
theorem w_room : about1.hasRoom e0.platform room_1 = true :=
  launch0.hasRoom_least _ room_1 (by decide +kernel) (by decide +kernel) (by decide +kernel) (by decide +kernel) (by decide +kernel) (by decide +kernel)
theorem allAtoms_all (ts : List Jvm.Cond) (a : Array Jvm.Value) (st : Jvm.State) : (allAtoms ts).before a st = ts.all (fun c => c.before a st) := by
  induction ts with
  | nil => rfl
  | cons c t ih =>
    show (Jvm.Cond.and c (allAtoms t)).before a st = _
    rw [Jvm.Cond.before_and, ih, List.all_cons]
def words1 : List Jvm.Cond := Jvm.Cond.code x code maxLocals ret :: tables_1
/-- a 'code' word, met by the world's own term for the bytes: nothing is compared byte by byte -/
theorem code_word {y : MethodName} {bytes : ByteArray} {mx : Nat} {rt : Option FieldType} {a : Array Value} {s : State} {m : MethodId} {meth : Method} {c : Code} (h1 : s.methodNamed? y = some m) (h2 : s.vm.method? m = some meth) (h3 : meth.code = some c) (h4 : c.code = bytes)
    (h5 : (c.maxLocals == mx && c.exceptionTable.isEmpty && decide (c.maxStack ≤ mostOperands) && decide (meth.sig.returnType = rt) && !meth.locks && decide (parseMethodDescriptor y.desc = some meth.sig)) = true) : (Jvm.Cond.code y bytes mx rt).before a s = true := by
  simp only [Bool.and_eq_true, beq_iff_eq, Bool.not_eq_true', decide_eq_true_eq] at h5
  obtain ⟨⟨⟨⟨⟨g1, g2⟩, g3⟩, g4⟩, g5⟩, g6⟩ := h5
  simp [Cond.before, Cond.holds, Cond.value, h1, h2, h3, h4, g1, g2, g3, g4, g5, g6]
def isCode : Jvm.Cond → Bool
  | .code _ _ _ _ => true
  | _ => false
theorem all_split {L : List Jvm.Cond} {P : Jvm.Cond → Bool} (h1 : L.all (fun c => isCode c || P c) = true) (h2 : ∀ c ∈ L.filter isCode, P c = true) : L.all P = true := by
  refine List.all_eq_true.mpr fun c hc => ?_
  have h := List.all_eq_true.mp h1 c hc
  rcases Bool.eq_false_or_eq_true (isCode c) with hi | hi
  · exact h2 c (List.mem_filter.mpr ⟨hc, hi⟩)
  · simpa [hi] using h
set_option maxRecDepth 65536 in
theorem w_c0 : (Jvm.Cond.code x code maxLocals ret).before args0 about1 = true := code_word (m := ⟨1, 1⟩) (meth := k1m1) (c := k1c1) (by decide +kernel) rfl rfl rfl (by decide +kernel)
set_option maxRecDepth 65536 in
theorem w_c1 : (Jvm.Cond.code ({ cls := "com/example/scanloom/scanloom/lexer/Utf8DecodePinLaw", name := "expected", desc := "([BI)I" } : Jvm.MethodName) method_3_code (7 : Nat) (Option.some Jvm.ClassFile.FieldType.int)).before args0 about1 = true := code_word (m := ⟨1, 2⟩) (meth := k1m2) (c := k1c2) (by decide +kernel) rfl rfl rfl (by decide +kernel)
set_option maxRecDepth 65536 in
theorem w_c2 : (Jvm.Cond.code ({ cls := "com/example/scanloom/scanloom/lexer/Utf8", name := "decode", desc := "([BI)I" } : Jvm.MethodName) prog_52_method_2_code (9 : Nat) (Option.some Jvm.ClassFile.FieldType.int)).before args0 about1 = true := code_word (m := ⟨2, 1⟩) (meth := k2m1) (c := k2c1) (by decide +kernel) rfl rfl rfl (by decide +kernel)
def codes1 : List Jvm.Cond := [Jvm.Cond.code x code maxLocals ret, Jvm.Cond.code ({ cls := "com/example/scanloom/scanloom/lexer/Utf8DecodePinLaw", name := "expected", desc := "([BI)I" } : Jvm.MethodName) method_3_code (7 : Nat) (Option.some Jvm.ClassFile.FieldType.int), Jvm.Cond.code ({ cls := "com/example/scanloom/scanloom/lexer/Utf8", name := "decode", desc := "([BI)I" } : Jvm.MethodName) prog_52_method_2_code (9 : Nat) (Option.some Jvm.ClassFile.FieldType.int)]
set_option maxRecDepth 65536 in
theorem codes_eq : words1.filter isCode = codes1 := rfl
theorem w_codes : ∀ c ∈ words1.filter isCode, c.before args0 about1 = true := by
  rw [codes_eq]
  intro c hc
  simp only [codes1, List.mem_cons, List.not_mem_nil, or_false] at hc
  rcases hc with rfl | rfl | rfl
  · exact w_c0
  · exact w_c1
  · exact w_c2
set_option maxRecDepth 65536 in
theorem w_t1 : words1.all (fun c => isCode c || c.before args0 about1) = true := by decide +kernel
theorem w_tables : (allAtoms (Jvm.Cond.code x code maxLocals ret :: tables_1)).before args0 about1 = true := by
  rw [allAtoms_all]
  show words1.all (fun c => c.before args0 about1) = true
  refine all_split ?_ w_codes
  rw [w_t1]
set_option maxRecDepth 65536 in
theorem w_case : (Jvm.Cond.and given_1 narrow_1).before args0 about1 = true := by decide +kernel
theorem w_applies : (headSpec (Jvm.Cond.code x code maxLocals ret :: tables_1) room_1).applies x e0.platform about1 = true :=
  (Spec.applies_iff w_frames).mpr ⟨w_running, w_runnable, w_alone, w_named, w_hears, w_ripe, w_room, w_tables⟩
theorem atStart : AtStart classFile x code maxLocals ret World_1 tables_1 room_1 Calls_1 rest_1 Pre_1 launch0 p0 e0 about1 theMethod args0 below0 :=
  ⟨lists_1, trivial, launch0.admits_env _ _ _, launch0.least_env, fairChoices_fair.cas, fairChoices_fair.clock, w_frames, w_args, w_heap, w_applies, trivial, trivial, w_case⟩
end start1
theorem witness_1 : WitnessClaimed_1 := ⟨start1.p0, start1.e0, start1.about1, start1.theMethod, start1.args0, start1.below0, start1.atStart⟩
end Jvm.Pilot.@@N@@
